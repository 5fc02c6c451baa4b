/- laws.FnSemverTermOpposite returns true for every input. -/
import Derived.Test.YtdlpcfhhpjjjmaaDoorWOpp
import Derived.Test.YtdlpcfhhpjjjmaaDoorOpsN
import Derived.Test.YtdlpcfhhpjjjmaaDoorPOpp
namespace Go.Proofs.YtdlpcfhhpjjjmaaDoor
open Go.RowKit
set_option linter.unusedVariables false
set_option linter.unusedSimpArgs false

theorem shut_open1 (e B : Bool) : shutB e true B = B := by cases e <;> rfl
theorem empty_of {s : ByteArray} (h : s.toList = []) : s = ⟨#[]⟩ := by
  apply bytes_ext
  rw [← ByteArray.toList_eq, h]
theorem holdG_eq (k u0 u1 u2 v0 v1 v2 a b c : Int) (u3 u4 v3 v4 p : ByteArray) (hv : v3.size ≤ 2147483647) (hp : p.size ≤ 2147483647) (hk : 0 ≤ k ∧ k ≤ 3) (dy md pd : Bool) (HD : Hid (dirtyIs k dy md pd)) (hst : Hid (TermIs 0 k u0 u1 u2 u3 u4 a b c p)) :
    HoldIsG 0 k u0 u1 u2 v0 v1 v2 u3 u4 v3 v4 (aEq dy md pd v0 v1 v2 a b c v3 p) := by
  intro W he
  have hT : CheckIs ⟨#[61]⟩ v0 v1 v2 a b c v3 p dy md pd true (aEq dy md pd v0 v1 v2 a b c v3 p) := by
    have h := checkIs_eq v0 v1 v2 a b c v3 p dy md pd true (by omega) (by omega)
    rw [shut_open1] at h
    exact h
  exact stHolds_any 0 k u0 u1 u2 a b c v0 v1 v2 u3 u4 p v3 v4 hk dy md pd HD W he ⟨#[61]⟩ opIs_0 _ hT hst
theorem holdG_ne (k u0 u1 u2 v0 v1 v2 a b c : Int) (u3 u4 v3 v4 p : ByteArray) (hv : v3.size ≤ 2147483647) (hp : p.size ≤ 2147483647) (hk : 0 ≤ k ∧ k ≤ 3) (dy md pd : Bool) (HD : Hid (dirtyIs k dy md pd)) (hst : Hid (TermIs 1 k u0 u1 u2 u3 u4 a b c p)) (hpp : pd = true → p.toList = []) :
    HoldIsG 1 k u0 u1 u2 v0 v1 v2 u3 u4 v3 v4 (aNe dy md pd v0 v1 v2 a b c v3 p) := by
  intro W he
  have hT : CheckIs ⟨#[33, 61]⟩ v0 v1 v2 a b c v3 p dy md pd true (aNe dy md pd v0 v1 v2 a b c v3 p) := by
    have h := checkIs_ne v0 v1 v2 a b c v3 p dy md pd true (by omega) (by omega) hpp
    rw [shut_open1] at h
    exact h
  exact stHolds_any 1 k u0 u1 u2 a b c v0 v1 v2 u3 u4 p v3 v4 hk dy md pd HD W he ⟨#[33, 61]⟩ opIs_1 _ hT hst
theorem holdG_gt (k u0 u1 u2 v0 v1 v2 a b c : Int) (u3 u4 v3 v4 p : ByteArray) (hv : v3.size ≤ 2147483647) (hp : p.size ≤ 2147483647) (hk : 0 ≤ k ∧ k ≤ 3) (dy md pd : Bool) (HD : Hid (dirtyIs k dy md pd)) (hst : Hid (TermIs 2 k u0 u1 u2 u3 u4 a b c p)) :
    HoldIsG 2 k u0 u1 u2 v0 v1 v2 u3 u4 v3 v4 (aUp dy md pd v0 v1 v2 a b c v3 p) := by
  intro W he
  have hT : CheckIs ⟨#[62]⟩ v0 v1 v2 a b c v3 p dy md pd true (aUp dy md pd v0 v1 v2 a b c v3 p) := by
    have h := checkIs_gt v0 v1 v2 a b c v3 p dy md pd true (by omega) (by omega)
    rw [shut_open1] at h
    exact h
  exact stHolds_any 2 k u0 u1 u2 a b c v0 v1 v2 u3 u4 p v3 v4 hk dy md pd HD W he ⟨#[62]⟩ opIs_2 _ hT hst
theorem holdG_le (k u0 u1 u2 v0 v1 v2 a b c : Int) (u3 u4 v3 v4 p : ByteArray) (hv : v3.size ≤ 2147483647) (hp : p.size ≤ 2147483647) (hk : 0 ≤ k ∧ k ≤ 3) (dy md pd : Bool) (HD : Hid (dirtyIs k dy md pd)) (hst : Hid (TermIs 5 k u0 u1 u2 u3 u4 a b c p)) :
    HoldIsG 5 k u0 u1 u2 v0 v1 v2 u3 u4 v3 v4 (aMo dy md pd v0 v1 v2 a b c v3 p) := by
  intro W he
  have hT : CheckIs ⟨#[60, 61]⟩ v0 v1 v2 a b c v3 p dy md pd true (aMo dy md pd v0 v1 v2 a b c v3 p) := by
    have h := checkIs_le v0 v1 v2 a b c v3 p dy md pd true (by omega) (by omega)
    rw [shut_open1] at h
    exact h
  exact stHolds_any 5 k u0 u1 u2 a b c v0 v1 v2 u3 u4 p v3 v4 hk dy md pd HD W he ⟨#[60, 61]⟩ opIs_5 _ hT hst
theorem holdG_lt (k u0 u1 u2 v0 v1 v2 a b c : Int) (u3 u4 v3 v4 p : ByteArray) (hv : v3.size ≤ 2147483647) (hp : p.size ≤ 2147483647) (hk : 0 ≤ k ∧ k ≤ 3) (dy md pd : Bool) (HD : Hid (dirtyIs k dy md pd)) (hst : Hid (TermIs 3 k u0 u1 u2 u3 u4 a b c p)) :
    HoldIsG 3 k u0 u1 u2 v0 v1 v2 u3 u4 v3 v4 (aLo v0 v1 v2 a b c v3 p) := by
  intro W he
  have hT : CheckIs ⟨#[60]⟩ v0 v1 v2 a b c v3 p dy md pd true (aLo v0 v1 v2 a b c v3 p) := by
    have h := checkIs_lt v0 v1 v2 a b c v3 p dy md pd true (by omega) (by omega)
    rw [shut_open1] at h
    exact h
  exact stHolds_any 3 k u0 u1 u2 a b c v0 v1 v2 u3 u4 p v3 v4 hk dy md pd HD W he ⟨#[60]⟩ opIs_3 _ hT hst
theorem holdG_ge (k u0 u1 u2 v0 v1 v2 a b c : Int) (u3 u4 v3 v4 p : ByteArray) (hv : v3.size ≤ 2147483647) (hp : p.size ≤ 2147483647) (hk : 0 ≤ k ∧ k ≤ 3) (dy md pd : Bool) (HD : Hid (dirtyIs k dy md pd)) (hst : Hid (TermIs 4 k u0 u1 u2 u3 u4 a b c p)) :
    HoldIsG 4 k u0 u1 u2 v0 v1 v2 u3 u4 v3 v4 (aGe v0 v1 v2 a b c v3 p) := by
  intro W he
  have hT : CheckIs ⟨#[62, 61]⟩ v0 v1 v2 a b c v3 p dy md pd true (aGe v0 v1 v2 a b c v3 p) := by
    have h := checkIs_ge v0 v1 v2 a b c v3 p dy md pd true (by omega) (by omega)
    rw [shut_open1] at h
    exact h
  exact stHolds_any 4 k u0 u1 u2 a b c v0 v1 v2 u3 u4 p v3 v4 hk dy md pd HD W he ⟨#[62, 61]⟩ opIs_4 _ hT hst
theorem opp_fu (k u0 u1 u2 v0 v1 v2 : Int) (u3 u4 v3 v4 : ByteArray) (h : (decide (u3.size ≤ 2147483647) && decide (u4.size ≤ 2147483647)) = false) (w : World) :
    Calls Tryd.prog 9 #[.agg (plainC u0 u1 u2 u3 u4), .int .i64 k, .agg (plainC v0 v1 v2 v3 v4)] w (BoolPost true w) := by
  have H := Lib.hid h
  clear h
  go_enter Tryd.func9, Tryd.ntmps9
  go_wp2_with fail
  refine (fits14_any u0 u1 u2 u3 u4 false H.out _).mono ?_
  rintro e w1 ⟨rfl, rfl⟩
  go_wp2_with fail
  go_ret
  exact ⟨rfl, (by repeat (first | (with_reducible assumption) | (with_reducible exact Below.refl _ _) | (with_reducible refine below_drewN ?_ _) | (with_reducible refine Below.drew ?_) | (with_reducible refine Below.setCell ?_ (by first | omega | (simp <;> omega)) _) | (with_reducible refine Below.alloc ?_ (by first | omega | (simp <;> omega)) _)))⟩

theorem opp_fv (k u0 u1 u2 v0 v1 v2 : Int) (u3 u4 v3 v4 : ByteArray) (h : (decide (u3.size ≤ 2147483647) && decide (u4.size ≤ 2147483647)) = true) (h2 : (decide (v3.size ≤ 2147483647) && decide (v4.size ≤ 2147483647)) = false) (w : World) :
    Calls Tryd.prog 9 #[.agg (plainC u0 u1 u2 u3 u4), .int .i64 k, .agg (plainC v0 v1 v2 v3 v4)] w (BoolPost true w) := by
  have H := Lib.hid h
  clear h
  have H2 := Lib.hid h2
  clear h2
  go_enter Tryd.func9, Tryd.ntmps9
  go_wp2_with fail
  refine (fits14_any u0 u1 u2 u3 u4 true H.out _).mono ?_
  rintro e w1 ⟨rfl, rfl⟩
  go_wp2_with fail
  refine (fits14_any v0 v1 v2 v3 v4 false H2.out _).mono ?_
  rintro e w1 ⟨rfl, rfl⟩
  go_wp2_with fail
  go_ret
  exact ⟨rfl, (by repeat (first | (with_reducible assumption) | (with_reducible exact Below.refl _ _) | (with_reducible refine below_drewN ?_ _) | (with_reducible refine Below.drew ?_) | (with_reducible refine Below.setCell ?_ (by first | omega | (simp <;> omega)) _) | (with_reducible refine Below.alloc ?_ (by first | omega | (simp <;> omega)) _)))⟩

theorem wfU9 {a : Int} (h : (Lit.int .u64 a).wf = true) : 0 ≤ a := by
  have h2 : (decide (IntKind.u64.min ≤ a) && decide (a ≤ IntKind.u64.max)) = true := h
  have e1 : IntKind.u64.min = 0 := by decide
  rw [e1] at h2
  simp only [Bool.and_eq_true, decide_eq_true_eq] at h2
  exact h2.1

theorem opposite_law (u0 u1 u2 : Int) (u3 u4 : ByteArray) (k : Int) (v0 v1 v2 : Int) (v3 v4 : ByteArray) (_w0 : (Lit.int .u64 u0).wf = true) (_w1 : (Lit.int .u64 u1).wf = true) (_w2 : (Lit.int .u64 u2).wf = true) (_w3 : u3.size ≤ maxLen) (_w4 : u4.size ≤ maxLen) (_w5 : (Lit.int .i64 k).wf = true) (_w6 : (Lit.int .u64 v0).wf = true) (_w7 : (Lit.int .u64 v1).wf = true) (_w8 : (Lit.int .u64 v2).wf = true) (_w9 : v3.size ≤ maxLen) (_w10 : v4.size ≤ maxLen) (w : World) (he : Hid (Errs w)) :
    Calls Tryd.prog 9 #[.agg #[.int .u64 u0, .int .u64 u1, .int .u64 u2, .string u3, .string u4], .int .i64 k, .agg #[.int .u64 v0, .int .u64 v1, .int .u64 v2, .string v3, .string v4]] w fun e w' => e = .returned (.bool true) ∧ Below w.heap.size w w' := by
  cases h1 : (decide (u3.size ≤ 2147483647) && decide (u4.size ≤ 2147483647)) with
  | false => exact opp_fu k u0 u1 u2 v0 v1 v2 u3 u4 v3 v4 h1 w
  | true =>
    cases h2 : (decide (v3.size ≤ 2147483647) && decide (v4.size ≤ 2147483647)) with
    | false => exact opp_fv k u0 u1 u2 v0 v1 v2 u3 u4 v3 v4 h1 h2 w
    | true =>
      simp only [Bool.and_eq_true, decide_eq_true_eq] at h1 h2
      by_cases k1 : k < 1
      · exact opp_lo k u0 u1 u2 v0 v1 v2 u3 u4 v3 v4 h1.1 h1.2 h2.1 h2.2 w he k1
      by_cases k3 : 3 < k
      · exact opp_hi k u0 u1 u2 v0 v1 v2 u3 u4 v3 v4 h1.1 h1.2 h2.1 h2.2 w he k3
      by_cases ke : k = 3
      · subst ke
        have HD : Hid (dirtyIs 3 false false false) := ⟨by decide, by decide, by decide⟩
        obtain ⟨p1, p2, p3⟩ := opp_out (opp_3 v0 v1 v2 u0 u1 u2 v3 u3 (cmpI_cases _ _ _ _ _ _ _ _))
        exact walk_3 3 u0 u1 u2 v0 v1 v2 u3 u4 v3 v4 h1.1 h1.2 h2.1 h2.2 w he rfl _ _ _ _ _ _ p1 p2 p3 (holdG_eq 3 u0 u1 u2 v0 v1 v2 u0 u1 u2 u3 u4 v3 v4 u3 h2.1 h1.1 (by omega) false false false HD (fun W => stTermC_3 0 u0 u1 u2 u3 u4 W)) (holdG_ne 3 u0 u1 u2 v0 v1 v2 u0 u1 u2 u3 u4 v3 v4 u3 h2.1 h1.1 (by omega) false false false HD (fun W => stTermC_3 1 u0 u1 u2 u3 u4 W) (fun h => by cases h)) (holdG_gt 3 u0 u1 u2 v0 v1 v2 u0 u1 u2 u3 u4 v3 v4 u3 h2.1 h1.1 (by omega) false false false HD (fun W => stTermC_3 2 u0 u1 u2 u3 u4 W)) (holdG_le 3 u0 u1 u2 v0 v1 v2 u0 u1 u2 u3 u4 v3 v4 u3 h2.1 h1.1 (by omega) false false false HD (fun W => stTermC_3 5 u0 u1 u2 u3 u4 W)) (holdG_lt 3 u0 u1 u2 v0 v1 v2 u0 u1 u2 u3 u4 v3 v4 u3 h2.1 h1.1 (by omega) false false false HD (fun W => stTermC_3 3 u0 u1 u2 u3 u4 W)) (holdG_ge 3 u0 u1 u2 v0 v1 v2 u0 u1 u2 u3 u4 v3 v4 u3 h2.1 h1.1 (by omega) false false false HD (fun W => stTermC_3 4 u0 u1 u2 u3 u4 W))
      cases hp : v3.toList.isEmpty with
      | false => exact opp_pre k u0 u1 u2 v0 v1 v2 u3 u4 v3 v4 h1.1 h1.2 h2.1 h2.2 w he ⟨by omega, by omega⟩ hp
      | true =>
        have hp9 : v3.toList = [] := by simpa using hp
        have hpe := empty_of hp9
        subst hpe
        have hy := wfU9 _w7
        have hz := wfU9 _w8
        have hk : k = 1 ∨ k = 2 := by omega
        rcases hk with rfl | rfl
        · have HD : Hid (dirtyIs 1 true true false) := ⟨by decide, by decide, by decide⟩
          obtain ⟨p1, p2, p3⟩ := opp_out (opp_1 v0 v1 v2 u0 hy hz)
          exact walk_12 1 u0 u1 u2 v0 v1 v2 u3 u4 ⟨#[]⟩ v4 h1.1 h1.2 h2.1 h2.2 w he ⟨by omega, by omega⟩ hp9 _ _ _ _ _ _ p1 p2 p3 (holdG_eq 1 u0 u1 u2 v0 v1 v2 u0 0 0 u3 u4 ⟨#[]⟩ v4 ⟨#[]⟩ h2.1 (Nat.zero_le _) (by omega) true true false HD (fun W => stTerm_1 0 u0 u1 u2 u3 u4 W)) (holdG_ne 1 u0 u1 u2 v0 v1 v2 u0 0 0 u3 u4 ⟨#[]⟩ v4 ⟨#[]⟩ h2.1 (Nat.zero_le _) (by omega) true true false HD (fun W => stTerm_1 1 u0 u1 u2 u3 u4 W) (fun h => hp9)) (holdG_gt 1 u0 u1 u2 v0 v1 v2 u0 0 0 u3 u4 ⟨#[]⟩ v4 ⟨#[]⟩ h2.1 (Nat.zero_le _) (by omega) true true false HD (fun W => stTerm_1 2 u0 u1 u2 u3 u4 W)) (holdG_le 1 u0 u1 u2 v0 v1 v2 u0 0 0 u3 u4 ⟨#[]⟩ v4 ⟨#[]⟩ h2.1 (Nat.zero_le _) (by omega) true true false HD (fun W => stTerm_1 5 u0 u1 u2 u3 u4 W)) (holdG_lt 1 u0 u1 u2 v0 v1 v2 u0 0 0 u3 u4 ⟨#[]⟩ v4 ⟨#[]⟩ h2.1 (Nat.zero_le _) (by omega) true true false HD (fun W => stTerm_1 3 u0 u1 u2 u3 u4 W)) (holdG_ge 1 u0 u1 u2 v0 v1 v2 u0 0 0 u3 u4 ⟨#[]⟩ v4 ⟨#[]⟩ h2.1 (Nat.zero_le _) (by omega) true true false HD (fun W => stTerm_1 4 u0 u1 u2 u3 u4 W))
        · have HD : Hid (dirtyIs 2 true false true) := ⟨by decide, by decide, by decide⟩
          obtain ⟨p1, p2, p3⟩ := opp_out (opp_2 v0 v1 v2 u0 u1 hz)
          exact walk_12 2 u0 u1 u2 v0 v1 v2 u3 u4 ⟨#[]⟩ v4 h1.1 h1.2 h2.1 h2.2 w he ⟨by omega, by omega⟩ hp9 _ _ _ _ _ _ p1 p2 p3 (holdG_eq 2 u0 u1 u2 v0 v1 v2 u0 u1 0 u3 u4 ⟨#[]⟩ v4 ⟨#[]⟩ h2.1 (Nat.zero_le _) (by omega) true false true HD (fun W => stTerm_2 0 u0 u1 u2 u3 u4 W)) (holdG_ne 2 u0 u1 u2 v0 v1 v2 u0 u1 0 u3 u4 ⟨#[]⟩ v4 ⟨#[]⟩ h2.1 (Nat.zero_le _) (by omega) true false true HD (fun W => stTerm_2 1 u0 u1 u2 u3 u4 W) (fun h => hp9)) (holdG_gt 2 u0 u1 u2 v0 v1 v2 u0 u1 0 u3 u4 ⟨#[]⟩ v4 ⟨#[]⟩ h2.1 (Nat.zero_le _) (by omega) true false true HD (fun W => stTerm_2 2 u0 u1 u2 u3 u4 W)) (holdG_le 2 u0 u1 u2 v0 v1 v2 u0 u1 0 u3 u4 ⟨#[]⟩ v4 ⟨#[]⟩ h2.1 (Nat.zero_le _) (by omega) true false true HD (fun W => stTerm_2 5 u0 u1 u2 u3 u4 W)) (holdG_lt 2 u0 u1 u2 v0 v1 v2 u0 u1 0 u3 u4 ⟨#[]⟩ v4 ⟨#[]⟩ h2.1 (Nat.zero_le _) (by omega) true false true HD (fun W => stTerm_2 3 u0 u1 u2 u3 u4 W)) (holdG_ge 2 u0 u1 u2 v0 v1 v2 u0 u1 0 u3 u4 ⟨#[]⟩ v4 ⟨#[]⟩ h2.1 (Nat.zero_le _) (by omega) true false true HD (fun W => stTerm_2 4 u0 u1 u2 u3 u4 W))
end Go.Proofs.YtdlpcfhhpjjjmaaDoor
