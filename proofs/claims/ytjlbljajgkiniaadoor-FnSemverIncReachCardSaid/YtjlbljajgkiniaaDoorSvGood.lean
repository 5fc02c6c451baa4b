/- spec.Good, svShort, svGood, svPre, svMeta, zzFits14. -/
import Derived.Test.YtjlbljajgkiniaaDoorSpecOk
import Derived.Test.YtjlbljajgkiniaaDoorVerOps
namespace Go.Proofs.YtjlbljajgkiniaaDoor
open Go.RowKit
set_option linter.unusedVariables false
set_option linter.unusedSimpArgs false

def goodB (p m : ByteArray) : Bool := (p.toList.isEmpty || (vpreB p && smallB p)) && (m.toList.isEmpty || vmetaB m)

set_option maxRecDepth 100000 in
set_option maxHeartbeats 2000000 in
theorem good_any (a b c : Int) (p m : ByteArray) (hs : p.size ≤ 2147483653) (ho : m.size ≤ 2147483653) (w : World) :
    Calls Tryd.prog 29 #[.agg (plainC a b c p m)] w (BoolPost (goodB p m) w) := by
  obtain ⟨b1, H1⟩ : ∃ b1, Hid (vpreB p = b1) := ⟨_, rfl⟩
  obtain ⟨b2, H2⟩ : ∃ b2, Hid (smallB p = b2) := ⟨_, rfl⟩
  obtain ⟨b3, H3⟩ : ∃ b3, Hid (vmetaB m = b3) := ⟨_, rfl⟩
  go_enter Tryd.func29, Tryd.ntmps29
  cases hp : p.toList.isEmpty with
  | true =>
    have HP := Lib.hid hp
    have hp1 : p.toList = [] := by simpa using hp
    clear hp
    cases hm : m.toList.isEmpty with
    | true =>
      have HM := Lib.hid hm
      have hm1 : m.toList = [] := by simpa using hm
      clear hm
      go_wp2_with fail
      go_ret
      exact ⟨ret_bool (by unfold goodB; rw [HP.out, HM.out, H1.out, H2.out, H3.out]; rfl), (Below.alloc (Below.refl _ _) (Nat.le_refl _) _)⟩
    | false =>
      have HM := Lib.hid hm
      go_wp2_with fail
      refine (validMeta_any _ ho _).mono ?_
      rintro e w1 ⟨rfl, hb1⟩
      rw [H3.out]
      have d1 : Below ((w.alloc (.cells (plainC a b c p m) 24))).heap.size (w.alloc (.cells (plainC a b c p m) 24)) w1 := hb1
      have k13 : w1.cell? ⟨w.heap.size, 3, none⟩ = some (.string p) := (d1.cell (p := ⟨w.heap.size, 3, none⟩) (by simp)).trans ((plainAt_last w _ _ rfl).cell 3)
      have k14 : w1.cell? ⟨w.heap.size, 4, none⟩ = some (.string m) := (d1.cell (p := ⟨w.heap.size, 4, none⟩) (by simp)).trans ((plainAt_last w _ _ rfl).cell 4)
      have f1 : Below w.heap.size w w1 := (Below.alloc (Below.refl _ _) (Nat.le_refl _) _).trans (d1.mono (by simp))
      cases b3
      all_goals
        go_wp2_with fail
        go_ret
        exact ⟨ret_bool (by unfold goodB; rw [HP.out, HM.out, H1.out, H2.out, H3.out]; rfl), f1⟩
  | false =>
    have HP := Lib.hid hp
    go_wp2_with fail
    refine (validPre_any _ hs _).mono ?_
    rintro e w1 ⟨rfl, hb1⟩
    rw [H1.out]
    have d1 : Below ((w.alloc (.cells (plainC a b c p m) 24))).heap.size (w.alloc (.cells (plainC a b c p m) 24)) w1 := hb1
    have k13 : w1.cell? ⟨w.heap.size, 3, none⟩ = some (.string p) := (d1.cell (p := ⟨w.heap.size, 3, none⟩) (by simp)).trans ((plainAt_last w _ _ rfl).cell 3)
    have k14 : w1.cell? ⟨w.heap.size, 4, none⟩ = some (.string m) := (d1.cell (p := ⟨w.heap.size, 4, none⟩) (by simp)).trans ((plainAt_last w _ _ rfl).cell 4)
    have f1 : Below w.heap.size w w1 := (Below.alloc (Below.refl _ _) (Nat.le_refl _) _).trans (d1.mono (by simp))
    cases b1 with
    | false =>
      cases hm : m.toList.isEmpty
      all_goals
        have HM := Lib.hid hm
        clear hm
        go_wp2_with fail
        go_ret
        exact ⟨ret_bool (by unfold goodB; rw [HP.out, HM.out, H1.out, H2.out, H3.out]; rfl), f1⟩
    | true =>
      go_wp2_with fail
      refine (smallPre_any _ hs _).mono ?_
      rintro e w2 ⟨rfl, hb2⟩
      rw [H2.out]
      have d2 : Below ((w.alloc (.cells (plainC a b c p m) 24))).heap.size (w.alloc (.cells (plainC a b c p m) 24)) w2 := d1.trans (hb2.mono d1.size)
      have k23 : w2.cell? ⟨w.heap.size, 3, none⟩ = some (.string p) := (d2.cell (p := ⟨w.heap.size, 3, none⟩) (by simp)).trans ((plainAt_last w _ _ rfl).cell 3)
      have k24 : w2.cell? ⟨w.heap.size, 4, none⟩ = some (.string m) := (d2.cell (p := ⟨w.heap.size, 4, none⟩) (by simp)).trans ((plainAt_last w _ _ rfl).cell 4)
      have f2 : Below w.heap.size w w2 := (Below.alloc (Below.refl _ _) (Nat.le_refl _) _).trans (d2.mono (by simp))
      cases b2 with
      | false =>
        cases hm : m.toList.isEmpty
        all_goals
          have HM := Lib.hid hm
          clear hm
          go_wp2_with fail
          go_ret
          exact ⟨ret_bool (by unfold goodB; rw [HP.out, HM.out, H1.out, H2.out, H3.out]; rfl), f2⟩
      | true =>
        cases hm : m.toList.isEmpty with
        | true =>
          have HM := Lib.hid hm
          have hm1 : m.toList = [] := by simpa using hm
          clear hm
          go_wp2_with fail
          go_ret
          exact ⟨ret_bool (by unfold goodB; rw [HP.out, HM.out, H1.out, H2.out, H3.out]; rfl), f2⟩
        | false =>
          have HM := Lib.hid hm
          go_wp2_with fail
          refine (validMeta_any _ ho _).mono ?_
          rintro e w3 ⟨rfl, hb3⟩
          rw [H3.out]
          have d3 : Below ((w.alloc (.cells (plainC a b c p m) 24))).heap.size (w.alloc (.cells (plainC a b c p m) 24)) w3 := d2.trans (hb3.mono d2.size)
          have k33 : w3.cell? ⟨w.heap.size, 3, none⟩ = some (.string p) := (d3.cell (p := ⟨w.heap.size, 3, none⟩) (by simp)).trans ((plainAt_last w _ _ rfl).cell 3)
          have k34 : w3.cell? ⟨w.heap.size, 4, none⟩ = some (.string m) := (d3.cell (p := ⟨w.heap.size, 4, none⟩) (by simp)).trans ((plainAt_last w _ _ rfl).cell 4)
          have f3 : Below w.heap.size w w3 := (Below.alloc (Below.refl _ _) (Nat.le_refl _) _).trans (d3.mono (by simp))
          cases b3
          all_goals
            go_wp2_with fail
            go_ret
            exact ⟨ret_bool (by unfold goodB; rw [HP.out, HM.out, H1.out, H2.out, H3.out]; rfl), f3⟩

theorem fits14_any (a b c : Int) (p m : ByteArray) (bb : Bool) (h : (decide (p.size ≤ 2147483647) && decide (m.size ≤ 2147483647)) = bb) (w : World) :
    Calls Tryd.prog 5 #[.agg (plainC a b c p m)] w fun e w' => e = .returned (.bool bb) ∧ w' = w.alloc (.cells (plainC a b c p m) 24) := by
  subst h
  by_cases h1 : 2147483647 < p.size
  · have e1 : decide (p.size ≤ 2147483647) = false := decide_eq_false (by omega)
    rw [e1]
    clear e1
    go_enter Tryd.func5, Tryd.ntmps5
    go_wp2_with fail
    go_ret
    exact ⟨rfl, rfl⟩
  · have e1 : decide (p.size ≤ 2147483647) = true := decide_eq_true (by omega)
    rw [e1]
    clear e1
    by_cases h2 : 2147483647 < m.size
    · have e1 : decide (m.size ≤ 2147483647) = false := decide_eq_false (by omega)
      rw [e1]
      clear e1
      go_enter Tryd.func5, Tryd.ntmps5
      go_wp2_with fail
      go_ret
      exact ⟨rfl, rfl⟩
    · have e1 : decide (m.size ≤ 2147483647) = true := decide_eq_true (by omega)
      rw [e1]
      clear e1
      go_enter Tryd.func5, Tryd.ntmps5
      go_wp2_with fail
      go_ret
      exact ⟨rfl, rfl⟩

def shortOk (s : ByteArray) : Bool := decide (s.size ≤ 65536)

set_option maxRecDepth 100000 in
set_option maxHeartbeats 2000000 in
theorem svShort_any (g cap : Nat) (A : List ByteArray) (hcA : A.length ≤ cap) (hm : A.length ≤ 1000) (hS : Hid (∀ i, (A.getD i noStr).size ≤ 2147483647)) (w : World) (CA : Hid (∀ i, i < A.length → w.cell? ⟨g, i, none⟩ = some (.string (A.getD i noStr)))) :
    Calls Tryd.prog 28 #[.slice (some ⟨g, 0, none⟩) A.length cap] w fun e w' => e = .returned (.bool (A.all shortOk)) ∧ w = w' := by
  go_enter Tryd.func28, Tryd.ntmps28
  go_wp2_with fail
  go_loop [7] (fun i => ∃ k : Nat, k ≤ A.length ∧ i = .int .i64 k ∧ Hid ((A.take k).all shortOk = true)) (fun i => A.length - (intOf i).toNat)
  case atStart => exact ⟨0, Nat.zero_le _, rfl, by show _ = _; simp⟩
  case round =>
    obtain ⟨k, hk, rfl, hrec⟩ := hrel
    by_cases hkL : k < A.length
    · obtain ⟨y, HX⟩ : ∃ y, Hid (A.getD k noStr = y) := ⟨_, rfl⟩
      have HSX : y.size ≤ 2147483647 := by rw [← HX.out]; exact hS.out k
      have hca : w.cell? ⟨g, k, none⟩ = some (.string y) := by rw [CA.out k (by omega), HX.out]
      by_cases hl : 65536 < y.size
      · have HN := Lib.hid (all_stop A shortOk k y hkL HX.out (by unfold shortOk; exact decide_eq_false (by omega)))
        go_wp2_with fail
        go_ret
        exact ⟨ret_bool (by rw [HN.out]), rfl⟩
      · have HN := Lib.hid (all_step A shortOk k y hkL HX.out (by unfold shortOk; exact decide_eq_true (by omega)) hrec.out)
        clear hrec
        go_wp2_with fail
        go_round
        case rel => exact ⟨k + 1, by omega, by go_num, HN⟩
        case measure => simp [intOf]; omega
    · have HN := Lib.hid (all_end A shortOk k hkL hrec.out)
      go_wp2_with fail
      go_ret
      exact ⟨ret_bool (by rw [HN.out]), rfl⟩
end Go.Proofs.YtjlbljajgkiniaaDoor
