/- cron.zzLower of any text; cron.getBits with any step. -/
import Derived.Test.YtkhggefbkhdimaaGreatDoorWk
import Derived.Test.YtkhggefbkhdimaaGreatDoorGPb
import Derived.Test.YtkhggefbkhdimaaGreatDoorPBits
import Derived.Lib.BufferRead
import Derived.Lib.AppendStr
import Derived.OwnWalk
import Derived.Deep.OwnRows
import Derived.Laws.OwnMore
import Derived.WalkSmall
namespace Go.Proofs.YtkhggefbkhdimaaGreatDoor
open Go.RowKit
set_option linter.unusedVariables false
set_option linter.unusedSimpArgs false

theorem Tryz.infoU8 : (Tryz.prog.info? 5).map (fun i => (i.zero, i.size, i.bytes)) = some (some (.int .u8 0), 1, 1) := by kernel_rfl

theorem conv_own {P : Program} (w : World) (src dst e : TypeId) (base : Nat) (v : Value) (n : Nat) (l : List UInt8) (h : w.ownsRow base e 1 v n (Lib.byteCells l)) (hs : P.underlying src = some (.slice e)) (he : P.underlying e = some (.int .u8)) (hd : P.underlying dst = some .string) :
    (convert src dst v).run P w = .ok (.string ⟨l.toArray⟩) w := by
  obtain ⟨hl, h⟩ := h
  rw [Lib.byteCells_length, Nat.mul_one] at hl
  subst hl
  rcases h with ⟨rfl, h0⟩ | ⟨g, cap, cur, rfl, _, hg, _, _, _, ht⟩
  · have : l = [] := List.eq_nil_of_length_eq_zero h0
    subst this
    exact Lib.run_convert_nil_bytes w src dst e 0 hs he hd
  · exact run_convert_bytes_back w src dst e _ cap l hs he hd (Lib.bytes_of_row hg (by rw [← ht]; simp))
/-- Behind an append onto a row that lies above block B: what lies in block B, and below it, is as it was. -/
theorem own_after {w W1 w2 : World} {B : Nat} {e : TypeId} {v : Value} {n size : Nat} {xs : List Value} {o : Obj} (hk : W1.heap[B]? = some o) (hb : Below B w W1) (hown : W1.ownsRow (B + 1) e size v n xs) (hg : W1.grownBy w2 v.ownBlock) :
    w2.heap[B]? = some o ∧ Below B w w2 ∧ B < w2.heap.size := by
  have hlt : B < W1.heap.size := (Array.getElem?_eq_some_iff.1 hk).1
  refine ⟨(hg.block B hlt (fun h => ?_)).trans hk, Below.grown hb hg (by omega) (fun k hk => ?_), Nat.lt_of_lt_of_le hlt hg.size⟩
  · have := hown.lt B h.symm; omega
  · have := hown.lt k hk; omega
theorem cells_snoc (l : List UInt8) (b : UInt8) (y : Int) (h : (b.toNat : Int) = y) : Lib.byteCells (l ++ [b]) = Lib.byteCells l ++ [.int .u8 y] := by
  rw [← h]
  unfold Lib.byteCells
  rw [List.map_append]
  rfl
theorem cells_str (l : List UInt8) (s : ByteArray) : Lib.byteCells (l ++ s.data.toList) = Lib.byteCells l ++ Lib.strCells s := by
  unfold Lib.byteCells
  rw [List.map_append]
  rfl

set_option maxRecDepth 100000 in
set_option maxHeartbeats 2000000 in
theorem zzLower_any (s : ByteArray) (hs : s.size ≤ 2147483654) (w : World) :
    Calls Tryz.prog 144 #[.string s] w fun e w' => e = .returned (.string ⟨(lowG s).toArray⟩) ∧ Below w.heap.size w w' := by
  obtain ⟨i0, hi, hz0, hz1, hz2⟩ := info_parts Tryz.infoU8
  have hk0 : (w.iter s 0).heap[w.heap.size]? = some (.stringIter s 0) := World.iter_heap w s 0
  have hb0 : Below w.heap.size w (w.iter s 0) := (Below.refl _ w).alloc (Nat.le_refl _) _
  go_enter Tryz.func144, Tryz.ntmps144
  go_wp2
  go_loopw [3] (fun v wr => ∃ (pos : Nat) (L : List UInt8), pos ≤ s.size ∧ Hid (wr.heap[w.heap.size]? = some (.stringIter s pos)) ∧ wr.ownsRow (w.heap.size + 1) 5 1 v L.length (Lib.byteCells L) ∧ Hid (L ++ lowF s (s.size - pos) pos = lowG s) ∧ L.length ≤ 4 * pos ∧ Below w.heap.size w wr ∧ w.heap.size < wr.heap.size)
    (fun _ wr => s.size - wr.iterPos w.heap.size)
  case atStart => exact ⟨0, [], Nat.zero_le _, hk0, ⟨by simp [Lib.byteCells], .inl ⟨rfl, rfl⟩⟩, Lib.hid rfl, by simp, hb0, by simp [World.iter]⟩
  case round =>
    obtain ⟨pos, L, hps, hk, hown, hL, hLl, hb, hsz⟩ := hrel
    clear hk0 hb0
    have HM := Lib.hid (iterPos_of (w := wr) hk)
    by_cases hlt : pos < s.size
    · have hst := low_step s pos hlt
      have hwi := width_in s pos hlt
      have hwp := Lib.width_pos s pos
      have hrl := Lib.rune_le s pos
      have hnext : ∀ ty, (Instr.next (.pointer (some ⟨w.heap.size, 0, none⟩)) true ty).run Tryz.prog wr = _ := fun ty => Lib.run_next_any_at wr w.heap.size s pos ty hk hlt
      generalize (Utf8.decode s pos).2 = wd at hst hwi hwp hnext
      generalize (Utf8.decode s pos).1 = r at hst hrl hnext
      have hk1 := Lib.hid (Lib.iterAt_heap wr w.heap.size s pos (pos + wd) hk)
      have hb1 : Below w.heap.size w (wr.iterAt w.heap.size s (pos + wd)) := Lib.below_iterAt hb (Nat.le_refl _) s (pos + wd)
      have hown1 := ownsRow_iterAt hown (show w.heap.size < w.heap.size + 1 by omega) s (pos + wd)
      have hsz1 : w.heap.size < (wr.iterAt w.heap.size s (pos + wd)).heap.size := by rw [Lib.iterAt_size]; exact hsz
      generalize wr.iterAt w.heap.size s (pos + wd) = W1 at hnext hk1 hb1 hown1 hsz1
      clear hown hb hk hsz
      have HS : Hid ((L ++ lowR r) ++ lowF s (s.size - (pos + wd)) (pos + wd) = lowG s) := Lib.hid (by rw [List.append_assoc, ← hst]; exact hL.out)
      clear hst hL
      have hr4 := lowR_len r
      have HL4 : Hid (L.length + (lowR r).length ≤ 4 * (pos + wd)) := Lib.hid (by omega)
      clear hr4
      obtain ⟨x, hx⟩ : ∃ x : Int, x = (r : Int) := ⟨_, rfl⟩
      rw [← hx] at hnext
      have h0 : 0 ≤ x := by omega
      have h128 : x ≤ 1114111 := by omega
      have HX := Lib.hid hx
      clear hx
      by_cases hup : 65 ≤ x ∧ x ≤ 90
      · obtain ⟨hu1, hu2⟩ := hup
        have HV : Hid (lowR r = [UInt8.ofNat (r + 32)]) := Lib.hid (by have hx := HX.out; unfold lowR; rw [if_pos (by omega)])
        have HV2 : Hid (((UInt8.ofNat (r + 32)).toNat : Int) = x - 65 + 97) := Lib.hid (by have hx := HX.out; rw [UInt8.toNat_ofNat', Nat.mod_eq_of_lt (by omega)]; omega)
        go_wp2_with (at_builtin; refine stop_here ?_)
        unfold Stop
        refine wpList_append_own _ rfl _ _ 25 rfl (w.heap.size + 1) 5 i0 (.int .u8 0) 1 1 Tryz.underlying25 hi hz0 hz1 hz2 rfl (by decide) _ _ _ rfl (hown1.alloc _) ⟨W1.heap.size, 0, none⟩ 1 1 [_] rfl rfl (cell_one_new _ _ _) ?_ ?_ ?_ ?_ ?_
        · intro u hu; rw [List.mem_singleton] at hu; subst hu; rfl
        · unfold maxLen; omega
        · omega
        · simp; omega
        intro v' w2 hown2 hgrow2 _
        obtain ⟨k2, b2, z2⟩ := own_after (Below.heap_alloc W1 _ _ hsz1 |>.trans hk1) (hb1.alloc (by omega) _) (hown1.alloc _) hgrow2
        have K2 := Lib.hid k2
        have HO := Lib.hid hown2
        clear hgrow2 hown2 k2
        go_wp2_with fail
        go_roundw
        case rel => exact ⟨pos + wd, L ++ [UInt8.ofNat (r + 32)], by omega, K2, by rw [cells_snoc L _ _ HV2.out, List.length_append]; exact HO.out, by rw [← HV.out]; exact HS.out, by rw [List.length_append]; have h8 := HL4.out; rw [HV.out] at h8; exact h8, b2, z2⟩
        case measure => rw [HM.out, iterPos_of K2.out]; omega
      · by_cases h304 : x = 304
        · have HV : Hid (lowR r = [105]) := Lib.hid (by have hx := HX.out; unfold lowR; rw [if_neg (by omega), if_pos (by omega)])
          have HV2 : Hid (((105 : UInt8).toNat : Int) = 105) := Lib.hid rfl
          have hu : 90 < x := by omega
          have q9 : decide (x ≤ 90) = false := decide_eq_false (by omega)
          clear hup
          have g3 : (x == 304) = true := by simp; omega
          have g4 : (x == 8490) = false := by simp; omega
          clear h304
          go_wp2_with (at_builtin; refine stop_here ?_)
          unfold Stop
          refine wpList_append_own _ rfl _ _ 25 rfl (w.heap.size + 1) 5 i0 (.int .u8 0) 1 1 Tryz.underlying25 hi hz0 hz1 hz2 rfl (by decide) _ _ _ rfl (hown1.alloc _) ⟨W1.heap.size, 0, none⟩ 1 1 [_] rfl rfl (cell_one_new _ _ _) ?_ ?_ ?_ ?_ ?_
          · intro u hu; rw [List.mem_singleton] at hu; subst hu; rfl
          · unfold maxLen; omega
          · omega
          · simp; omega
          intro v' w2 hown2 hgrow2 _
          obtain ⟨k2, b2, z2⟩ := own_after (Below.heap_alloc W1 _ _ hsz1 |>.trans hk1) (hb1.alloc (by omega) _) (hown1.alloc _) hgrow2
          have K2 := Lib.hid k2
          have HO := Lib.hid hown2
          clear hgrow2 hown2 k2
          go_wp2_with fail
          go_roundw
          case rel => exact ⟨pos + wd, L ++ [105], by omega, K2, by rw [cells_snoc L _ _ HV2.out, List.length_append]; exact HO.out, by rw [← HV.out]; exact HS.out, by rw [List.length_append]; have h8 := HL4.out; rw [HV.out] at h8; exact h8, b2, z2⟩
          case measure => rw [HM.out, iterPos_of K2.out]; omega
        · by_cases h8490 : x = 8490
          · have HV : Hid (lowR r = [107]) := Lib.hid (by have hx := HX.out; unfold lowR; rw [if_neg (by omega), if_neg (by omega), if_pos (by omega)])
            have HV2 : Hid (((107 : UInt8).toNat : Int) = 107) := Lib.hid rfl
            have hu : 90 < x := by omega
            have q9 : decide (x ≤ 90) = false := decide_eq_false (by omega)
            clear hup
            have g3 : (x == 304) = false := by simp; omega
            have g4 : (x == 8490) = true := by simp; omega
            clear h304 h8490
            go_wp2_with (at_builtin; refine stop_here ?_)
            unfold Stop
            refine wpList_append_own _ rfl _ _ 25 rfl (w.heap.size + 1) 5 i0 (.int .u8 0) 1 1 Tryz.underlying25 hi hz0 hz1 hz2 rfl (by decide) _ _ _ rfl (hown1.alloc _) ⟨W1.heap.size, 0, none⟩ 1 1 [_] rfl rfl (cell_one_new _ _ _) ?_ ?_ ?_ ?_ ?_
            · intro u hu; rw [List.mem_singleton] at hu; subst hu; rfl
            · unfold maxLen; omega
            · omega
            · simp; omega
            intro v' w2 hown2 hgrow2 _
            obtain ⟨k2, b2, z2⟩ := own_after (Below.heap_alloc W1 _ _ hsz1 |>.trans hk1) (hb1.alloc (by omega) _) (hown1.alloc _) hgrow2
            have K2 := Lib.hid k2
            have HO := Lib.hid hown2
            clear hgrow2 hown2 k2
            go_wp2_with fail
            go_roundw
            case rel => exact ⟨pos + wd, L ++ [107], by omega, K2, by rw [cells_snoc L _ _ HV2.out, List.length_append]; exact HO.out, by rw [← HV.out]; exact HS.out, by rw [List.length_append]; have h8 := HL4.out; rw [HV.out] at h8; exact h8, b2, z2⟩
            case measure => rw [HM.out, iterPos_of K2.out]; omega
          · have g3 : (x == 304) = false := by simp; omega
            have g4 : (x == 8490) = false := by simp; omega
            rcases (by omega : x < 65 ∨ 90 < x) with hu | hu
            · have HV : Hid (lowR r = (Utf8.encode x).data.toList) := Lib.hid (by have hx := HX.out; unfold lowR; rw [if_neg (by omega), if_neg (by omega), if_neg (by omega), hx])
              have HZ : (Utf8.encode x).size ≤ 4 := encode_four x
              go_wp2_with (at_builtin; refine stop_here ?_)
              unfold Stop
              refine Lib.wpList_append_own_string _ rfl _ _ 25 9 rfl (w.heap.size + 1) 5 i0 Tryz.underlying25 Tryz.underlying9 hi hz0 hz1 hz2 _ _ _ rfl hown1 _ rfl ?_ ?_ ?_ ?_
              · unfold maxLen; omega
              · omega
              · omega
              intro v' w2 hown2 hgrow2 _
              obtain ⟨k2, b2, z2⟩ := own_after hk1 hb1 hown1 hgrow2
              have K2 := Lib.hid k2
              have HO := Lib.hid hown2
              clear hgrow2 hown2 k2
              go_wp2_with fail
              go_roundw
              case rel => exact ⟨pos + wd, L ++ (Utf8.encode x).data.toList, by omega, K2, by rw [cells_str, List.length_append]; exact HO.out, by rw [← HV.out]; exact HS.out, by rw [List.length_append]; have h8 := HL4.out; rw [HV.out] at h8; exact h8, b2, z2⟩
              case measure => rw [HM.out, iterPos_of K2.out]; omega
            · have HV : Hid (lowR r = (Utf8.encode x).data.toList) := Lib.hid (by have hx := HX.out; unfold lowR; rw [if_neg (by omega), if_neg (by omega), if_neg (by omega), hx])
              have HZ : (Utf8.encode x).size ≤ 4 := encode_four x
              go_wp2_with (at_builtin; refine stop_here ?_)
              unfold Stop
              refine Lib.wpList_append_own_string _ rfl _ _ 25 9 rfl (w.heap.size + 1) 5 i0 Tryz.underlying25 Tryz.underlying9 hi hz0 hz1 hz2 _ _ _ rfl hown1 _ rfl ?_ ?_ ?_ ?_
              · unfold maxLen; omega
              · omega
              · omega
              intro v' w2 hown2 hgrow2 _
              obtain ⟨k2, b2, z2⟩ := own_after hk1 hb1 hown1 hgrow2
              have K2 := Lib.hid k2
              have HO := Lib.hid hown2
              clear hgrow2 hown2 k2
              go_wp2_with fail
              go_roundw
              case rel => exact ⟨pos + wd, L ++ (Utf8.encode x).data.toList, by omega, K2, by rw [cells_str, List.length_append]; exact HO.out, by rw [← HV.out]; exact HS.out, by rw [List.length_append]; have h8 := HL4.out; rw [HV.out] at h8; exact h8, b2, z2⟩
              case measure => rw [HM.out, iterPos_of K2.out]; omega
    · have hnext : ∀ ty, (Instr.next (.pointer (some ⟨w.heap.size, 0, none⟩)) true ty).run Tryz.prog wr = _ := fun ty => Lib.run_next_end_at wr w.heap.size s pos ty hk hlt
      have hcv := conv_own (P := Tryz.prog) wr 25 9 5 _ _ _ _ hown Tryz.underlying25 Tryz.underlying5 Tryz.underlying9
      have HE : Hid (L = lowG s) := Lib.hid (by have := hL.out; rw [low_end s _ pos hlt, List.append_nil] at this; exact this)
      clear hL
      go_wp2
      go_ret
      exact ⟨ret_str (by rw [HE.out]), hb⟩
set_option maxHeartbeats 400000 in
theorem getBitsW_one (a b : Nat) (ha : a ≤ b) (hb : b ≤ 63) (w : World) :
    Calls Tryz.prog 106 #[.int .u64 a, .int .u64 b, .int .u64 1] w fun e w' => e = .returned (.int .u64 (GB a b 1 : Nat)) ∧ w = w' := by
  have H := Lib.hid (GB_one a b ha hb)
  go_enter Tryz.func106, Tryz.ntmps106
  go_wp2
  go_ret
  exact ⟨ret_u64 H.out, rfl⟩

set_option maxHeartbeats 400000 in
theorem getBitsW_many (a b s : Nat) (ha : a ≤ b) (hb : b ≤ 63) (h1 : 1 < s) (h2 : s ≤ 9223372036854775807) (w : World) :
    Calls Tryz.prog 106 #[.int .u64 a, .int .u64 b, .int .u64 s] w fun e w' => e = .returned (.int .u64 (GB a b s : Nat)) ∧ w = w' := by
  have hs : ((s : Int) == 1) = false := by simp; omega
  go_enter Tryz.func106, Tryz.ntmps106
  go_wp2
  go_loop [7, 8] (fun t i => ∃ n : Nat, a ≤ n ∧ n ≤ 9223372036854775807 + 63 ∧ (n - a) % s = 0 ∧ i = .int .u64 n ∧ t = .int .u64 (upTo a b s n : Nat)) (fun _ i => 9223372036854775807 + 64 - (intOf i).toNat)
  case atStart => exact ⟨a, Nat.le_refl _, by omega, by simp, rfl, by rw [upTo_start]; rfl⟩
  case round =>
    obtain ⟨n, han, hn, hm, rfl, rfl⟩ := hrel
    by_cases hlt : n ≤ b
    · have H := Lib.hid (upTo_step a b s n (by omega) han hlt hb hm)
      have HM := Lib.hid (step_mod a s n han hm)
      clear hm
      go_wp2
      go_round
      case rel => exact ⟨n + s, by omega, by omega, HM.out, by go_num, by rw [H.out]⟩
      case measure => simp [intOf]; omega
    · have H := Lib.hid (upTo_end a b s n (by omega))
      clear hm
      go_wp2
      go_ret
      exact ⟨by rw [← H.out]; rfl, rfl⟩

theorem getBitsW_any (a b s : Nat) (ha : a ≤ b) (hb : b ≤ 63) (h1 : 1 ≤ s) (h2 : s ≤ 9223372036854775807) (w : World) :
    Calls Tryz.prog 106 #[.int .u64 a, .int .u64 b, .int .u64 s] w fun e w' => e = .returned (.int .u64 (GB a b s : Nat)) ∧ w = w' := by
  by_cases h : s = 1
  · subst h; exact getBitsW_one a b ha hb w
  · exact getBitsW_many a b s ha hb (by omega) h2 w

end Go.Proofs.YtkhggefbkhdimaaGreatDoor
