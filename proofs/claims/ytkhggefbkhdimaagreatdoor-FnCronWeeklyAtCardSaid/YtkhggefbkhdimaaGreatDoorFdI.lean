/- spec.cronPieces, spec.CronStep. -/
import Derived.Test.YtkhggefbkhdimaaGreatDoorPPc
import Derived.Test.YtkhggefbkhdimaaGreatDoorSplitCr
import Derived.Test.YtkhggefbkhdimaaGreatDoorFdG
namespace Go.Proofs.YtkhggefbkhdimaaGreatDoor
open Go.RowKit
set_option linter.unusedVariables false
set_option linter.unusedSimpArgs false

set_option maxRecDepth 100000 in
set_option maxHeartbeats 2000000 in
theorem pieces_any (s : ByteArray) (c : UInt8) (hs : s.size ≤ 2147483654) (w : World) :
    Calls Tryz.prog 147 #[.string s, .int .u8 c.toNat] w (StrsPost (cutB c.toNat s) w) := by
  obtain ⟨i0, hi, hz0, hz1, hz2⟩ := info_parts Tryz.infoStr
  obtain ⟨y, hy⟩ : ∃ y : Int, y = (c.toNat : Int) := ⟨_, rfl⟩
  rw [← hy]
  clear hy
  go_enter Tryz.func147, Tryz.ntmps147
  go_wp2_with fail
  go_loopw [5, 6, 10] (fun v fr i wr => ∃ (k f : Nat) (P : List ByteArray), k ≤ s.size ∧ f ≤ k ∧ i = .int .i64 k ∧ fr = .int .i64 f ∧ P.length ≤ k ∧ wr.ownsRow w.heap.size 9 1 v P.length (strsV P) ∧ Hid (P ++ cutB y (s.extract f s.size) = cutB y s) ∧ Hid (k - f ≤ fstIx (s.data.toList.drop f) y) ∧ Below w.heap.size w wr)
    (fun _ _ i _ => s.size - (intOf i).toNat)
  case atStart => exact ⟨0, 0, [], by omega, by omega, rfl, rfl, by simp, ⟨by simp [strsV], .inl ⟨rfl, rfl⟩⟩, Lib.hid (by rw [pc_all]; rfl), Lib.hid (by omega), Below.refl _ _⟩
  case round =>
    obtain ⟨k, f, P, hk, hf, rfl, rfl, hPl, hown, hP, hno, hb⟩ := hrel
    by_cases hlt : k < s.size
    · obtain ⟨x, hx⟩ : ∃ x : Int, x = (s[k].toNat : Int) := ⟨_, rfl⟩
      have HI := idxS s k hlt x hx
      cases hc : (x == y) with
      | true =>
        have HH := Lib.hid (pc_hit s f k y hf hlt hno.out (by rw [← hx]; exact hc))
        clear hx
        go_wp2_with (at_builtin; refine stop_here ?_)
        unfold Stop
        refine wpList_append_own _ rfl _ _ 39 rfl w.heap.size 9 i0 (.string ByteArray.empty) 1 16 Tryz.underlying39 hi hz0 hz1 hz2 rfl (by decide) _ _ _ rfl (hown.alloc _) ⟨wr.heap.size, 0, none⟩ 1 1 [_] rfl rfl (cell_one_new _ _ _) ?_ ?_ ?_ ?_ ?_
        · intro u hu; rw [List.mem_singleton] at hu; subst hu; rfl
        · unfold maxLen; omega
        · omega
        · have := hb.size; simp; omega
        intro v' w2 hown2 hgrow2 _
        have b2 : Below w.heap.size w w2 := Below.grown (hb.alloc hb.size _) hgrow2 (by have := hb.size; simp; omega) (fun k hk => (hown.lt k hk).1)
        have HO := Lib.hid hown2
        clear hgrow2 hown2
        go_wp2_with fail
        go_roundw
        case rel => exact ⟨k + 1, k + 1, P ++ [s.extract f k], by omega, by omega, by go_num, by go_num, by simp; omega, by have h9 := HO.out; rw [show P.length + 1 = (P ++ [s.extract f k]).length from by simp] at h9; simpa [strsV] using h9, Lib.hid (by rw [← hP.out, HH.out, List.append_assoc]; rfl), Lib.hid (by omega), b2⟩
        case measure => simp [intOf]; omega
      | false =>
        have HH := Lib.hid (pc_miss s f k y hf hlt hno.out (by rw [← hx]; exact hc))
        clear hx
        go_wp2_with fail
        go_roundw
        case rel => exact ⟨k + 1, f, P, by omega, by omega, by go_num, rfl, by omega, hown, hP, HH, hb⟩
        case measure => simp [intOf]; omega
    · have HH := Lib.hid (pc_end s f y (by have := hno.out; omega))
      go_wp2_with (at_builtin; refine stop_here ?_)
      unfold Stop
      refine wpList_append_own _ rfl _ _ 39 rfl w.heap.size 9 i0 (.string ByteArray.empty) 1 16 Tryz.underlying39 hi hz0 hz1 hz2 rfl (by decide) _ _ _ rfl (hown.alloc _) ⟨wr.heap.size, 0, none⟩ 1 1 [_] rfl rfl (cell_one_new _ _ _) ?_ ?_ ?_ ?_ ?_
      · intro u hu; rw [List.mem_singleton] at hu; subst hu; rfl
      · unfold maxLen; omega
      · omega
      · have := hb.size; simp; omega
      intro v' w2 hown2 hgrow2 _
      have b2 : Below w.heap.size w w2 := Below.grown (hb.alloc hb.size _) hgrow2 (by have := hb.size; simp; omega) (fun k hk => (hown.lt k hk).1)
      have HO := Lib.hid hown2
      clear hgrow2 hown2
      go_wp2_with fail
      go_ret
      refine ⟨_, rfl, ?_, b2⟩
      rw [← hP.out, HH.out]
      have h9 := HO.out
      rw [show P.length + 1 = (P ++ [s.extract f s.size]).length from by simp] at h9
      simpa [strsV] using h9

set_option maxHeartbeats 2000000 in
theorem step_any (t : ByteArray) (ht : t.size ≤ 2147483654) (w : World) :
    Calls Tryz.prog 158 #[.string t] w (ValPost (stepS t.data.toList) w) := by
  have hn := number_any t ht
  have hle := cnum_le t.data.toList
  have HN := Lib.hid hn
  clear hn
  have HV : Hid (stepS t.data.toList = if (cnum t.data.toList).2 = 0 ∨ (cnum t.data.toList).1 = 0 then (0, 0) else if (cnum t.data.toList).1 = hugeN then (0, 2) else cnum t.data.toList) := Lib.hid rfl
  generalize cnum t.data.toList = p at hle HN HV
  obtain ⟨n, v⟩ := p
  dsimp only at hle
  have HL := Lib.hid hle
  clear hle
  by_cases h0 : v = 0
  · have HR : Hid (stepS t.data.toList = (0, 0)) := Lib.hid (by rw [HV.out, if_pos (Or.inl h0)])
    subst h0
    go_enter Tryz.func158, Tryz.ntmps158
    go_wp2_with (first | (go_at_call 165; refine (HN.out _).mono ?_; rintro e w' ⟨rfl, rfl⟩))
    go_ret2
    exact ⟨by rw [HR.out]; rfl, Below.refl _ _⟩
  · by_cases h1 : n = 0
    · have HR : Hid (stepS t.data.toList = (0, 0)) := Lib.hid (by rw [HV.out, if_pos (Or.inr h1)])
      have q0 : ((v : Int) == 0) = false := by simp only [beq_eq_false_iff_ne]; omega
      subst h1
      go_enter Tryz.func158, Tryz.ntmps158
      go_wp2_with (first | (go_at_call 165; refine (HN.out _).mono ?_; rintro e w' ⟨rfl, rfl⟩))
      go_ret2
      exact ⟨by rw [HR.out]; rfl, Below.refl _ _⟩
    · have q0 : ((v : Int) == 0) = false := by simp only [beq_eq_false_iff_ne]; omega
      have q1 : ((n : Int) == 0) = false := by simp only [beq_eq_false_iff_ne]; omega
      by_cases h2 : n = hugeN
      · have HR : Hid (stepS t.data.toList = (0, 2)) := Lib.hid (by rw [HV.out, if_neg (fun h => h.elim h0 h1), if_pos h2])
        have q2 : ((n : Int) == 1099511627776) = true := by unfold hugeN at h2; simp; omega
        clear h2
        go_enter Tryz.func158, Tryz.ntmps158
        go_wp2_with (first | (go_at_call 165; refine (HN.out _).mono ?_; rintro e w' ⟨rfl, rfl⟩))
        go_ret2
        exact ⟨by rw [HR.out]; rfl, Below.refl _ _⟩
      · have HR : Hid (stepS t.data.toList = (n, v)) := Lib.hid (by rw [HV.out, if_neg (fun h => h.elim h0 h1), if_neg h2])
        have q2 : ((n : Int) == 1099511627776) = false := by unfold hugeN at h2; simp only [beq_eq_false_iff_ne]; omega
        clear h2
        go_enter Tryz.func158, Tryz.ntmps158
        go_wp2_with (first | (go_at_call 165; refine (HN.out _).mono ?_; rintro e w' ⟨rfl, rfl⟩))
        go_ret2
        exact ⟨by rw [HR.out]; rfl, Below.refl _ _⟩
end Go.Proofs.YtkhggefbkhdimaaGreatDoor
