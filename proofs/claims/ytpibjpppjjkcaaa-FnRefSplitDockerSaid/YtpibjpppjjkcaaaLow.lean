/- reference.zzLower (over bytes below 128) and spec.RefSmall: small letters in the place of A to Z. -/
import Derived.Test.YtpibjpppjjkcaaaWk
import Derived.Lib.OthersKept
import Derived.Lib.BufferRead
import Derived.Lib.AppendStr
import Derived.OwnWalk
import Derived.Deep.OwnRows
import Derived.Laws.OwnMore
import Derived.WalkSmall
namespace Go.Proofs.Ytpibjpppjjkcaaa
open Go.RowKit

theorem Try.infoU8 : (Try.prog.info? 5).map (fun i => (i.zero, i.size, i.bytes)) = some (some (.int .u8 0), 1, 1) := by kernel_rfl

theorem conv_own {P : Program} (w : World) (src dst e : TypeId) (base : Nat) (v : Value) (n : Nat) (l : List UInt8) (h : w.ownsRow base e 1 v n (Lib.byteCells l)) (hs : P.underlying src = some (.slice e)) (he : P.underlying e = some (.int .u8)) (hd : P.underlying dst = some .string) :
    (convert src dst v).run P w = .ok (.string ⟨l.toArray⟩) w := by
  obtain ⟨hl, h⟩ := h
  rw [Lib.byteCells_length, Nat.mul_one] at hl
  subst hl
  rcases h with ⟨rfl, h0⟩ | ⟨g, cap, cur, rfl, _, hg, _, _, _, ht⟩
  · have : l = [] := List.eq_nil_of_length_eq_zero h0
    subst this
    exact Lib.run_convert_nil_bytes w src dst e 0 hs he hd
  · exact run_convert_bytes_back w src dst e _ cap l hs he hd (Lib.bytes_of_row hg (by rw [← ht]; simp))

/-- A to Z in small letters. -/
def lowU (b : UInt8) : UInt8 := if 65 ≤ b.toNat ∧ b.toNat ≤ 90 then b + 32 else b
def lowL (l : List UInt8) : List UInt8 := l.map lowU

theorem lowL_len (l : List UInt8) : (lowL l).length = l.length := by simp [lowL]

theorem low_snoc (s : ByteArray) (k : Nat) (h : k < s.size) : Lib.byteCells (lowL (s.data.toList.take (k + 1))) = Lib.byteCells (lowL (s.data.toList.take k)) ++ [.int .u8 ((lowU s[k]).toNat : Int)] := by
  rw [List.take_succ_eq_append_getElem (by rw [str_len]; exact h)]
  unfold lowL Lib.byteCells
  rw [List.map_append, List.map_append]
  rfl

theorem low_up (b : UInt8) (x : Int) (hx : x = (b.toNat : Int)) (h1 : 65 ≤ x) (h2 : x ≤ 90) : ((lowU b).toNat : Int) = x - 65 + 97 := by
  subst hx
  unfold lowU
  rw [if_pos (by omega), UInt8.toNat_add]
  have : (32 : UInt8).toNat = 32 := rfl
  omega
theorem low_same (b : UInt8) (x : Int) (hx : x = (b.toNat : Int)) (h : ¬ (65 ≤ x ∧ x ≤ 90)) : lowU b = b := by
  subst hx
  unfold lowU
  rw [if_neg (by omega)]

/-- Behind an append onto a row that lies above block B: what lies in block B, and below it, is as it was. -/
theorem own_after {w W1 w2 : World} {B : Nat} {e : TypeId} {v : Value} {n size : Nat} {xs : List Value} {o : Obj} (hk : W1.heap[B]? = some o) (hb : Below B w W1) (hown : W1.ownsRow (B + 1) e size v n xs) (hg : W1.grownBy w2 v.ownBlock) :
    w2.heap[B]? = some o ∧ Below B w w2 ∧ B < w2.heap.size := by
  have hlt : B < W1.heap.size := (Array.getElem?_eq_some_iff.1 hk).1
  refine ⟨(hg.block B hlt (fun h => ?_)).trans hk, Below.grown hb hg (by omega) (fun k hk => ?_), Nat.lt_of_lt_of_le hlt hg.size⟩
  · have := hown.lt B h.symm; omega
  · have := hown.lt k hk; omega

theorem encode_low (b : UInt8) (x : Int) (hx : x = (b.toNat : Int)) (h : x < 128) : Utf8.encode x = ⟨#[b]⟩ := by
  subst hx
  have v : Utf8.valid (b.toNat : Int) = true := by simp [Utf8.valid]; omega
  have c1 : b.toNat < 128 := by omega
  simp [Utf8.encode, v, c1]

set_option maxRecDepth 100000 in
set_option maxHeartbeats 1000000 in
theorem zzLower_any (s : ByteArray) (hs : s.size ≤ 2147483647) (hp : Hid (plainB s.data.toList = true)) (w : World) :
    Calls Try.prog 44 #[.string s] w fun e w' => e = .returned (.string ⟨(lowL s.data.toList).toArray⟩) ∧ Below w.heap.size w w' := by
  obtain ⟨i0, hi, hz0, hz1, hz2⟩ := info_parts Try.infoU8
  have hk0 : (w.iter s 0).heap[w.heap.size]? = some (.stringIter s 0) := World.iter_heap w s 0
  have hb0 : Below w.heap.size w (w.iter s 0) := (Below.refl _ w).alloc (Nat.le_refl _) _
  go_enter Try.func44, Try.ntmps44
  go_wp2
  go_loopw [3] (fun v wr => ∃ pos : Nat, pos ≤ s.size ∧ Hid (wr.heap[w.heap.size]? = some (.stringIter s pos)) ∧ wr.ownsRow (w.heap.size + 1) 5 1 v pos (Lib.byteCells (lowL (s.data.toList.take pos))) ∧ Below w.heap.size w wr ∧ w.heap.size < wr.heap.size)
    (fun _ wr => s.size - wr.iterPos w.heap.size)
  case atStart => exact ⟨0, Nat.zero_le _, hk0, ⟨by simp [Lib.byteCells, lowL], .inl ⟨rfl, rfl⟩⟩, hb0, by simp [World.iter]⟩
  case round =>
    obtain ⟨pos, hps, hk, hown, hb, hsz⟩ := hrel
    clear hk0 hb0
    have HM := Lib.hid (iterPos_of (w := wr) hk)
    by_cases hlt : pos < s.size
    · have hnext : ∀ ty, (Instr.next (.pointer (some ⟨w.heap.size, 0, none⟩)) true ty).run Try.prog wr = _ := fun ty => Lib.run_next_ascii_at wr w.heap.size s pos ty hk hlt (plainB_at s hp pos hlt)
      have hk1 := Lib.hid (Lib.iterAt_heap wr w.heap.size s pos (pos + 1) hk)
      have hb1 : Below w.heap.size w (wr.iterAt w.heap.size s (pos + 1)) := Lib.below_iterAt hb (Nat.le_refl _) s (pos + 1)
      have hown1 := ownsRow_iterAt hown (show w.heap.size < w.heap.size + 1 by omega) s (pos + 1)
      have hsz1 : w.heap.size < (wr.iterAt w.heap.size s (pos + 1)).heap.size := by rw [Lib.iterAt_size]; exact hsz
      generalize wr.iterAt w.heap.size s (pos + 1) = W1 at hnext hk1 hb1 hown1 hsz1
      clear hown hb hk hsz
      have HE := Lib.hid (low_snoc s pos hlt)
      have h128 : ((s[pos]).toNat : Int) < 128 := by have := plainB_at s hp pos hlt; omega
      have h0 : 0 ≤ ((s[pos]).toNat : Int) := by omega
      generalize s[pos] = b at hnext HE h128 h0
      obtain ⟨x, hx⟩ : ∃ x : Int, x = (b.toNat : Int) := ⟨_, rfl⟩
      rw [← hx] at hnext h128 h0
      have HX := Lib.hid hx
      clear hx
      by_cases hup : 65 ≤ x ∧ x ≤ 90
      · obtain ⟨hu1, hu2⟩ := hup
        have HV := Lib.hid (low_up b x HX.out hu1 hu2)
        go_wp2_with (at_builtin; refine stop_here ?_)
        unfold Stop
        refine wpList_append_own _ rfl _ _ 64 rfl (w.heap.size + 1) 5 i0 (.int .u8 0) 1 1 Try.underlying64 hi hz0 hz1 hz2 rfl (by decide) _ _ _ rfl (hown1.alloc _) ⟨W1.heap.size, 0, none⟩ 1 1 [_] rfl rfl (cell_one_new _ _ _) ?c1 ?c2 ?c3 ?c4 ?_
        · intro u hu; rw [List.mem_singleton] at hu; subst hu; rfl
        · unfold maxLen; omega
        · omega
        · simp; omega
        intro v' w2 hown2 hgrow2 _
        obtain ⟨k2, b2, z2⟩ := own_after (Below.heap_alloc W1 _ _ hsz1 |>.trans hk1) (hb1.alloc (by omega) _) (hown1.alloc _) hgrow2
        have K2 := Lib.hid k2
        have HO := Lib.hid hown2
        clear hgrow2 hown2 k2
        go_wp2_with fail
        go_roundw
        case rel => exact ⟨pos + 1, by omega, K2, by rw [HE.out, HV.out]; exact HO.out, b2, z2⟩
        case measure => rw [HM.out, iterPos_of K2.out]; omega
      · have HV := Lib.hid (low_same b x HX.out hup)
        have HC := Lib.hid (encode_low b x HX.out h128)
        rcases (by omega : x < 65 ∨ 90 < x) with hu | hu
        all_goals clear hup
        · go_wp2_with (at_builtin; refine stop_here ?_)
          unfold Stop
          refine Lib.wpList_append_own_string _ rfl _ _ 64 9 rfl (w.heap.size + 1) 5 i0 Try.underlying64 Try.underlying9 hi hz0 hz1 hz2 _ _ _ rfl hown1 _ rfl ?_ ?_ ?_ ?_
          · rw [HC.out]; unfold maxLen; show pos + 1 ≤ _; omega
          · rw [HC.out]; show pos + 1 ≤ _; omega
          · omega
          intro v' w2 hown2 hgrow2 _
          obtain ⟨k2, b2, z2⟩ := own_after hk1 hb1 hown1 hgrow2
          have K2 := Lib.hid k2
          have HO := Lib.hid hown2
          clear hgrow2 hown2 k2
          go_wp2_with fail
          go_roundw
          case rel => exact ⟨pos + 1, by omega, K2, by rw [HE.out, HV.out]; have h9 := HO.out; rw [HC.out] at h9; exact h9, b2, z2⟩
          case measure => rw [HM.out, iterPos_of K2.out]; omega
        · go_wp2_with (at_builtin; refine stop_here ?_)
          unfold Stop
          refine Lib.wpList_append_own_string _ rfl _ _ 64 9 rfl (w.heap.size + 1) 5 i0 Try.underlying64 Try.underlying9 hi hz0 hz1 hz2 _ _ _ rfl hown1 _ rfl ?_ ?_ ?_ ?_
          · rw [HC.out]; unfold maxLen; show pos + 1 ≤ _; omega
          · rw [HC.out]; show pos + 1 ≤ _; omega
          · omega
          intro v' w2 hown2 hgrow2 _
          obtain ⟨k2, b2, z2⟩ := own_after hk1 hb1 hown1 hgrow2
          have K2 := Lib.hid k2
          have HO := Lib.hid hown2
          clear hgrow2 hown2 k2
          go_wp2_with fail
          go_roundw
          case rel => exact ⟨pos + 1, by omega, K2, by rw [HE.out, HV.out]; have h9 := HO.out; rw [HC.out] at h9; exact h9, b2, z2⟩
          case measure => rw [HM.out, iterPos_of K2.out]; omega
    · have hnext : ∀ ty, (Instr.next (.pointer (some ⟨w.heap.size, 0, none⟩)) true ty).run Try.prog wr = _ := fun ty => Lib.run_next_end_at wr w.heap.size s pos ty hk hlt
      have hcv := conv_own (P := Try.prog) wr 64 9 5 _ _ _ _ hown Try.underlying64 Try.underlying5 Try.underlying9
      go_wp2
      go_ret
      exact ⟨ret_str (by rw [List.take_of_length_le (by rw [str_len]; omega)]), hb⟩
end Go.Proofs.Ytpibjpppjjkcaaa
