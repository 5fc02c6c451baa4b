/- cronWith, cronEarlier; either field of days. -/
import Derived.Test.YtpgclepiagfgfaaTsK
import Derived.Test.YtpgclepiagfgfaaTsR
namespace Go.Proofs.Ytpgclepiagfgfaa
open Go.RowKit
set_option linter.unusedVariables false
set_option linter.unusedSimpArgs false

theorem either_fits (s : Sched) (h1 : s.dom.testBit 63 = false) (h2 : s.dow.testBit 63 = false) (v : Int) :
    fits s v = (fits { s with dow := starV 0 6 } v || fits { s with dom := starV 1 31 } v) := by
  unfold fits
  have e1 : dyOK { s with dow := starV 0 6 } v = s.dom.testBit (dayOf (dayN v)).toNat := by
    unfold dyOK dayB
    have hw : ((dayN v + 4) % 7).toNat ≤ 6 := by omega
    simp only [starV_bit 0 6 _ (by decide), h1]
    simp [hw]
  have e2 : dyOK { s with dom := starV 1 31 } v = s.dow.testBit ((dayN v + 4) % 7).toNat := by
    unfold dyOK dayB
    have hd := day_bd (dayN v)
    have hw : 1 ≤ (dayOf (dayN v)).toNat ∧ (dayOf (dayN v)).toNat ≤ 31 := by omega
    simp only [starV_bit 1 31 _ (by decide), h2]
    simp [hw.1, hw.2]
  have e3 : dyOK s v = (s.dom.testBit (dayOf (dayN v)).toNat || s.dow.testBit ((dayN v + 4) % 7).toNat) := by
    unfold dyOK dayB; simp [h1, h2]
  rw [e1, e2, e3]
  show (moOK s v && _ && hoOK s v && miOK s v && seOK s v) = (moOK s v && _ && hoOK s v && miOK s v && seOK s v || moOK s v && _ && hoOK s v && miOK s v && seOK s v)
  cases moOK s v <;> cases hoOK s v <;> cases miOK s v <;> cases seOK s v <;> simp
theorem NextIs.zero {s : Sched} {first lim r : Int} (h : NextIs s first lim r) (hr : r ≤ 0) (hf : 1 ≤ first) : r = 0 ∧ ∀ v, first ≤ v → yr v ≤ lim → fits s v = false := by
  rcases h with h | h
  · have := h.1; omega
  · exact h
/-- The earlier of two searches is the search for either. -/
theorem either_plain {s s1 s2 : Sched} {first lim r r1 r2 : Int} (he : ∀ v, fits s v = (fits s1 v || fits s2 v)) (h : NextIs s first lim r) (h1 : NextIs s1 first lim r1) (h2 : NextIs s2 first lim r2) (hf : 1 ≤ first) :
    r = if (!decide (0 < r1) || (decide (0 < r2) && decide (r2 < r1))) then r2 else r1 := by
  have key : NextIs s first lim (if (!decide (0 < r1) || (decide (0 < r2) && decide (r2 < r1))) then r2 else r1) := by
    by_cases a1 : 0 < r1
    · obtain ⟨p1, p2, p3, p4⟩ := h1.from a1
      by_cases a2 : 0 < r2
      · obtain ⟨q1, q2, q3, q4⟩ := h2.from a2
        by_cases a3 : r2 < r1
        · simp only [a1, a2, a3, decide_true, Bool.not_true, Bool.false_or, Bool.true_and, if_true]
          exact .inl ⟨q1, by rw [he, q2]; simp, q3, fun v k1 k2 => by rw [he, p4 v k1 (by omega), q4 v k1 k2]; rfl⟩
        · simp only [a1, a2, a3, decide_true, decide_false, Bool.not_true, Bool.false_or, Bool.true_and, Bool.false_eq_true, if_false]
          exact .inl ⟨p1, by rw [he, p2]; simp, p3, fun v k1 k2 => by rw [he, p4 v k1 k2, q4 v k1 (by omega)]; rfl⟩
      · obtain ⟨-, q⟩ := h2.zero (by omega) hf
        simp only [a1, a2, decide_true, decide_false, Bool.not_true, Bool.false_or, Bool.false_and, Bool.false_eq_true, if_false]
        exact .inl ⟨p1, by rw [he, p2]; simp, p3, fun v k1 k2 => by rw [he, p4 v k1 k2, q v k1 (by have := yr_mono (show v ≤ r1 by omega); omega)]; rfl⟩
    · obtain ⟨-, p⟩ := h1.zero (by omega) hf
      simp only [a1, decide_false, Bool.not_false, Bool.true_or, if_true]
      by_cases a2 : 0 < r2
      · obtain ⟨q1, q2, q3, q4⟩ := h2.from a2
        exact .inl ⟨q1, by rw [he, q2]; simp, q3, fun v k1 k2 => by rw [he, q4 v k1 k2, p v k1 (by have := yr_mono (show v ≤ r2 by omega); omega)]; rfl⟩
      · obtain ⟨q0, q⟩ := h2.zero (by omega) hf
        exact .inr ⟨q0, fun v k1 k2 => by rw [he, p v k1 k2, q v k1 k2]; rfl⟩
  exact h.unique key

set_option maxRecDepth 100000 in
set_option maxHeartbeats 2000000 in
theorem with_dow (s : Sched) (dl : Int) (V : Nat) (w : World) :
    Calls Try.prog 31 #[.agg #[.bool false, .int .i64 dl, .int .u64 s.se, .int .u64 s.mi, .int .u64 s.ho, .int .u64 s.dom, .int .u64 s.mo, .int .u64 s.dow], .int .i64 5, .int .u64 V] w fun e w' => e = .returned (.agg #[.bool false, .int .i64 dl, .int .u64 s.se, .int .u64 s.mi, .int .u64 s.ho, .int .u64 s.dom, .int .u64 s.mo, .int .u64 V]) ∧ Below w.heap.size w w' := by
  have HIx : ∀ W, (Instr.index 92 (.agg #[.pointer (some ⟨w.heap.size, 2, none⟩), .pointer (some ⟨w.heap.size, 3, none⟩), .pointer (some ⟨w.heap.size, 4, none⟩), .pointer (some ⟨w.heap.size, 5, none⟩), .pointer (some ⟨w.heap.size, 6, none⟩), .pointer (some ⟨w.heap.size, 7, none⟩)]) (.int .i64 5)).run Try.prog W = .ok (.pointer (some ⟨w.heap.size, 7, none⟩)) W := fun _ => by kernel_rfl
  go_enter Try.func31, Try.ntmps31
  go_wp2_with fail
  refine bodyPost_ret (v := .agg #[.bool false, .int .i64 dl, .int .u64 s.se, .int .u64 s.mi, .int .u64 s.ho, .int .u64 s.dom, .int .u64 s.mo, .int .u64 V]) (by simp [results, Try.results31, go_sem]) rfl ⟨rfl, ?_⟩
  exact (by repeat (first | (with_reducible assumption) | (with_reducible exact Below.refl _ _) | (with_reducible refine Below.setCell ?_ (by first | omega | (simp <;> omega)) _) | refine below_drewN ?_ _ | refine Below.drew ?_ | refine Below.alloc ?_ (by first | omega | (simp <;> omega)) _))

set_option maxRecDepth 100000 in
set_option maxHeartbeats 2000000 in
theorem with_dom (s : Sched) (dl : Int) (V : Nat) (w : World) :
    Calls Try.prog 31 #[.agg #[.bool false, .int .i64 dl, .int .u64 s.se, .int .u64 s.mi, .int .u64 s.ho, .int .u64 s.dom, .int .u64 s.mo, .int .u64 s.dow], .int .i64 3, .int .u64 V] w fun e w' => e = .returned (.agg #[.bool false, .int .i64 dl, .int .u64 s.se, .int .u64 s.mi, .int .u64 s.ho, .int .u64 V, .int .u64 s.mo, .int .u64 s.dow]) ∧ Below w.heap.size w w' := by
  have HIx : ∀ W, (Instr.index 92 (.agg #[.pointer (some ⟨w.heap.size, 2, none⟩), .pointer (some ⟨w.heap.size, 3, none⟩), .pointer (some ⟨w.heap.size, 4, none⟩), .pointer (some ⟨w.heap.size, 5, none⟩), .pointer (some ⟨w.heap.size, 6, none⟩), .pointer (some ⟨w.heap.size, 7, none⟩)]) (.int .i64 3)).run Try.prog W = .ok (.pointer (some ⟨w.heap.size, 5, none⟩)) W := fun _ => by kernel_rfl
  go_enter Try.func31, Try.ntmps31
  go_wp2_with fail
  refine bodyPost_ret (v := .agg #[.bool false, .int .i64 dl, .int .u64 s.se, .int .u64 s.mi, .int .u64 s.ho, .int .u64 V, .int .u64 s.mo, .int .u64 s.dow]) (by simp [results, Try.results31, go_sem]) rfl ⟨rfl, ?_⟩
  exact (by repeat (first | (with_reducible assumption) | (with_reducible exact Below.refl _ _) | (with_reducible refine Below.setCell ?_ (by first | omega | (simp <;> omega)) _) | refine below_drewN ?_ _ | refine Below.drew ?_ | refine Below.alloc ?_ (by first | omega | (simp <;> omega)) _))

def earB (x1 : Int) (b1 : Bool) (x2 : Int) (b2 : Bool) : Bool := !b1 || (b2 && beforeB x2 0 x1 0)
set_option maxHeartbeats 2000000 in
theorem earlier_any (x1 x2 : Int) (b1 b2 : Bool) (w : World) :
    Calls Try.prog 32 #[.agg #[.int .i64 x1, .int .i64 0], .bool b1, .agg #[.int .i64 x2, .int .i64 0], .bool b2] w fun e w' => e = .returned (.tuple #[.agg #[.int .i64 (if earB x1 b1 x2 b2 then x2 else x1), .int .i64 0], .bool (if earB x1 b1 x2 b2 then b2 else b1)]) ∧ Below w.heap.size w w' := by
  obtain ⟨q, hq⟩ : ∃ q, Hid (beforeB x2 0 x1 0 = q) := ⟨_, rfl⟩
  unfold earB
  rw [hq.out]
  have HR0 := Lib.hid ((((rws0 w).alloc _ rfl #[.int .i64 x1, .int .i64 0] 24).alloc (w.heap.size + 1) (by simp) #[.int .i64 x2, .int .i64 0] 24).alloc (w.heap.size + 1 + 1) (by simp) #[.int .i64 0, .int .i64 0] 24)
  cases b1 <;> cases b2
  · -- false false
    go_enter Try.func32, Try.ntmps32
    go_wp2_with fail
    refine bodyPost_ret (v := .tuple #[.agg #[.int .i64 x2, .int .i64 0], .bool false]) (by simp [results, Try.results32, go_sem]) rfl ⟨by simp, ?_⟩
    exact (by repeat (first | (with_reducible assumption) | (with_reducible exact Below.refl _ _) | (with_reducible refine Below.setCell ?_ (by first | omega | (simp <;> omega)) _) | refine below_drewN ?_ _ | refine Below.drew ?_ | refine Below.alloc ?_ (by first | omega | (simp <;> omega)) _))
  · -- false true
    go_enter Try.func32, Try.ntmps32
    go_wp2_with fail
    refine bodyPost_ret (v := .tuple #[.agg #[.int .i64 x2, .int .i64 0], .bool true]) (by simp [results, Try.results32, go_sem]) rfl ⟨by simp, ?_⟩
    exact (by repeat (first | (with_reducible assumption) | (with_reducible exact Below.refl _ _) | (with_reducible refine Below.setCell ?_ (by first | omega | (simp <;> omega)) _) | refine below_drewN ?_ _ | refine Below.drew ?_ | refine Below.alloc ?_ (by first | omega | (simp <;> omega)) _))
  · -- true false
    go_enter Try.func32, Try.ntmps32
    go_wp2_with fail
    refine bodyPost_ret (v := .tuple #[.agg #[.int .i64 x1, .int .i64 0], .bool true]) (by simp [results, Try.results32, go_sem]) rfl ⟨by simp, ?_⟩
    exact (by repeat (first | (with_reducible assumption) | (with_reducible exact Below.refl _ _) | (with_reducible refine Below.setCell ?_ (by first | omega | (simp <;> omega)) _) | refine below_drewN ?_ _ | refine Below.drew ?_ | refine Below.alloc ?_ (by first | omega | (simp <;> omega)) _))
  · -- true true
    go_enter Try.func32, Try.ntmps32
    go_wp2_with fail
    refine (before_any x2 0 x1 0 _).mono ?_
    rintro e w1 ⟨rfl, hb⟩
    rw [hq.out]
    have HR1 := Lib.hid (HR0.out.below hb)
    clear hb HR0
    cases q with
    | true =>
      have y0 : w1.cell? ⟨w.heap.size + 1, 0, none⟩ = some (.int .i64 x2) := HR1.out.at1.cell 0
      have y1 : w1.cell? ⟨w.heap.size + 1, 1, none⟩ = some (.int .i64 0) := HR1.out.at1.cell 1
      have z0 : w1.cell? ⟨w.heap.size, 0, none⟩ = some (.int .i64 x1) := HR1.out.at2.cell 0
      have z1 : w1.cell? ⟨w.heap.size, 1, none⟩ = some (.int .i64 0) := HR1.out.at2.cell 1
      have c0 : w1.cell? ⟨w.heap.size + 1 + 1, 0, none⟩ = some (.int .i64 0) := HR1.out.at0.cell 0
      have c1 : w1.cell? ⟨w.heap.size + 1 + 1, 1, none⟩ = some (.int .i64 0) := HR1.out.at0.cell 1
      have f0 := HR1.out.at0.free 0
      have f1 := HR1.out.at0.free 1
      have bk := HR1.out.2
      go_wp2_with fail
      refine bodyPost_ret (v := .tuple #[.agg #[.int .i64 x2, .int .i64 0], .bool true]) (by simp [results, Try.results32, go_sem, c0, c1, f0, f1]) rfl ⟨by simp, ?_⟩
      exact (by repeat (first | (with_reducible assumption) | (with_reducible exact Below.refl _ _) | (with_reducible refine Below.setCell ?_ (by first | omega | (simp <;> omega)) _) | refine below_drewN ?_ _ | refine Below.drew ?_ | refine Below.alloc ?_ (by first | omega | (simp <;> omega)) _))
    | false =>
      have y0 : w1.cell? ⟨w.heap.size + 1, 0, none⟩ = some (.int .i64 x2) := HR1.out.at1.cell 0
      have y1 : w1.cell? ⟨w.heap.size + 1, 1, none⟩ = some (.int .i64 0) := HR1.out.at1.cell 1
      have z0 : w1.cell? ⟨w.heap.size, 0, none⟩ = some (.int .i64 x1) := HR1.out.at2.cell 0
      have z1 : w1.cell? ⟨w.heap.size, 1, none⟩ = some (.int .i64 0) := HR1.out.at2.cell 1
      have c0 : w1.cell? ⟨w.heap.size + 1 + 1, 0, none⟩ = some (.int .i64 0) := HR1.out.at0.cell 0
      have c1 : w1.cell? ⟨w.heap.size + 1 + 1, 1, none⟩ = some (.int .i64 0) := HR1.out.at0.cell 1
      have f0 := HR1.out.at0.free 0
      have f1 := HR1.out.at0.free 1
      have bk := HR1.out.2
      go_wp2_with fail
      refine bodyPost_ret (v := .tuple #[.agg #[.int .i64 x1, .int .i64 0], .bool true]) (by simp [results, Try.results32, go_sem, c0, c1, f0, f1]) rfl ⟨by simp, ?_⟩
      exact (by repeat (first | (with_reducible assumption) | (with_reducible exact Below.refl _ _) | (with_reducible refine Below.setCell ?_ (by first | omega | (simp <;> omega)) _) | refine below_drewN ?_ _ | refine Below.drew ?_ | refine Below.alloc ?_ (by first | omega | (simp <;> omega)) _))

end Go.Proofs.Ytpgclepiagfgfaa
