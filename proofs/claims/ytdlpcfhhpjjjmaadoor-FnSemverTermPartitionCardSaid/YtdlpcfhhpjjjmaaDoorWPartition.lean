/- laws.FnSemverTermPartition returns true for every input. -/
import Derived.Test.YtdlpcfhhpjjjmaaDoorWPart
import Derived.Test.YtdlpcfhhpjjjmaaDoorOps
import Derived.Test.YtdlpcfhhpjjjmaaDoorPPart
namespace Go.Proofs.YtdlpcfhhpjjjmaaDoor
open Go.RowKit
set_option linter.unusedVariables false
set_option linter.unusedSimpArgs false

theorem shut_t (e B : Bool) : shutB e true B = B := by cases e <;> rfl
theorem holdIs_lt (k u0 u1 u2 v0 v1 v2 a b c : Int) (hk : 0 ≤ k ∧ k ≤ 3) (dy md pd : Bool) (HD : Hid (dirtyIs k dy md pd)) (hst : Hid (TermIs 3 k u0 u1 u2 ⟨#[]⟩ ⟨#[]⟩ a b c ⟨#[]⟩)) :
    HoldIs 3 k u0 u1 u2 v0 v1 v2 (bLow v0 v1 v2 a b c) := by
  intro W he
  have hT : CheckIs ⟨#[60]⟩ v0 v1 v2 a b c ⟨#[]⟩ ⟨#[]⟩ dy md pd true (bLow v0 v1 v2 a b c) := by
    have h := checkIs_lt v0 v1 v2 a b c ⟨#[]⟩ ⟨#[]⟩ dy md pd true (Nat.zero_le _) (Nat.zero_le _)
    rw [shut_t, cmpI_bare] at h
    exact h
  exact stHolds_any 3 k u0 u1 u2 a b c v0 v1 v2 ⟨#[]⟩ ⟨#[]⟩ ⟨#[]⟩ ⟨#[]⟩ ⟨#[]⟩ hk dy md pd HD W he ⟨#[60]⟩ opIs_3 _ hT hst
theorem holdIs_eq (k u0 u1 u2 v0 v1 v2 a b c : Int) (hk : 0 ≤ k ∧ k ≤ 3) (dy md pd : Bool) (HD : Hid (dirtyIs k dy md pd)) (hst : Hid (TermIs 0 k u0 u1 u2 ⟨#[]⟩ ⟨#[]⟩ a b c ⟨#[]⟩)) :
    HoldIs 0 k u0 u1 u2 v0 v1 v2 (bEq dy md pd v0 v1 v2 a b c) := by
  intro W he
  have hT : CheckIs ⟨#[61]⟩ v0 v1 v2 a b c ⟨#[]⟩ ⟨#[]⟩ dy md pd true (bEq dy md pd v0 v1 v2 a b c) := by
    have h := checkIs_eq v0 v1 v2 a b c ⟨#[]⟩ ⟨#[]⟩ dy md pd true (Nat.zero_le _) (Nat.zero_le _)
    rw [shut_t, cmpI_bare] at h
    exact h
  exact stHolds_any 0 k u0 u1 u2 a b c v0 v1 v2 ⟨#[]⟩ ⟨#[]⟩ ⟨#[]⟩ ⟨#[]⟩ ⟨#[]⟩ hk dy md pd HD W he ⟨#[61]⟩ opIs_0 _ hT hst
theorem holdIs_gt (k u0 u1 u2 v0 v1 v2 a b c : Int) (hk : 0 ≤ k ∧ k ≤ 3) (dy md pd : Bool) (HD : Hid (dirtyIs k dy md pd)) (hst : Hid (TermIs 2 k u0 u1 u2 ⟨#[]⟩ ⟨#[]⟩ a b c ⟨#[]⟩)) :
    HoldIs 2 k u0 u1 u2 v0 v1 v2 (bUp dy md pd v0 v1 v2 a b c) := by
  intro W he
  have hT : CheckIs ⟨#[62]⟩ v0 v1 v2 a b c ⟨#[]⟩ ⟨#[]⟩ dy md pd true (bUp dy md pd v0 v1 v2 a b c) := by
    have h := checkIs_gt v0 v1 v2 a b c ⟨#[]⟩ ⟨#[]⟩ dy md pd true (Nat.zero_le _) (Nat.zero_le _)
    rw [shut_t, cmpI_bare] at h
    exact h
  exact stHolds_any 2 k u0 u1 u2 a b c v0 v1 v2 ⟨#[]⟩ ⟨#[]⟩ ⟨#[]⟩ ⟨#[]⟩ ⟨#[]⟩ hk dy md pd HD W he ⟨#[62]⟩ opIs_2 _ hT hst
theorem part_fu (k u0 u1 u2 v0 v1 v2 : Int) (u3 u4 v3 v4 : ByteArray) (h : (decide (u3.size ≤ 2147483647) && decide (u4.size ≤ 2147483647)) = false) (w : World) :
    Calls Tryd.prog 10 #[.agg (plainC u0 u1 u2 u3 u4), .int .i64 k, .agg (plainC v0 v1 v2 v3 v4)] w (BoolPost true w) := by
  have H := Lib.hid h
  clear h
  go_enter Tryd.func10, Tryd.ntmps10
  go_wp2_with fail
  refine (fits14_any u0 u1 u2 u3 u4 false H.out _).mono ?_
  rintro e w1 ⟨rfl, rfl⟩
  go_wp2_with fail
  go_ret
  exact ⟨rfl, (by repeat (first | (with_reducible assumption) | (with_reducible exact Below.refl _ _) | (with_reducible refine below_drewN ?_ _) | (with_reducible refine Below.drew ?_) | (with_reducible refine Below.alloc ?_ (by first | omega | (simp <;> omega)) _)))⟩

theorem part_fv (k u0 u1 u2 v0 v1 v2 : Int) (u3 u4 v3 v4 : ByteArray) (h : (decide (u3.size ≤ 2147483647) && decide (u4.size ≤ 2147483647)) = true) (h2 : (decide (v3.size ≤ 2147483647) && decide (v4.size ≤ 2147483647)) = false) (w : World) :
    Calls Tryd.prog 10 #[.agg (plainC u0 u1 u2 u3 u4), .int .i64 k, .agg (plainC v0 v1 v2 v3 v4)] w (BoolPost true w) := by
  have H := Lib.hid h
  clear h
  have H2 := Lib.hid h2
  clear h2
  go_enter Tryd.func10, Tryd.ntmps10
  go_wp2_with fail
  refine (fits14_any u0 u1 u2 u3 u4 true H.out _).mono ?_
  rintro e w1 ⟨rfl, rfl⟩
  go_wp2_with fail
  refine (fits14_any v0 v1 v2 v3 v4 false H2.out _).mono ?_
  rintro e w1 ⟨rfl, rfl⟩
  go_wp2_with fail
  go_ret
  exact ⟨rfl, (by repeat (first | (with_reducible assumption) | (with_reducible exact Below.refl _ _) | (with_reducible refine below_drewN ?_ _) | (with_reducible refine Below.drew ?_) | (with_reducible refine Below.alloc ?_ (by first | omega | (simp <;> omega)) _)))⟩

theorem wfU {a : Int} (h : (Lit.int .u64 a).wf = true) : 0 ≤ a := by
  have h2 : (decide (IntKind.u64.min ≤ a) && decide (a ≤ IntKind.u64.max)) = true := h
  have e1 : IntKind.u64.min = 0 := by decide
  rw [e1] at h2
  simp only [Bool.and_eq_true, decide_eq_true_eq] at h2
  exact h2.1

theorem partition_law (u0 u1 u2 : Int) (u3 u4 : ByteArray) (k : Int) (v0 v1 v2 : Int) (v3 v4 : ByteArray) (_w0 : (Lit.int .u64 u0).wf = true) (_w1 : (Lit.int .u64 u1).wf = true) (_w2 : (Lit.int .u64 u2).wf = true) (_w3 : u3.size ≤ maxLen) (_w4 : u4.size ≤ maxLen) (_w5 : (Lit.int .i64 k).wf = true) (_w6 : (Lit.int .u64 v0).wf = true) (_w7 : (Lit.int .u64 v1).wf = true) (_w8 : (Lit.int .u64 v2).wf = true) (_w9 : v3.size ≤ maxLen) (_w10 : v4.size ≤ maxLen) (w : World) (he : Hid (Errs w)) :
    Calls Tryd.prog 10 #[.agg #[.int .u64 u0, .int .u64 u1, .int .u64 u2, .string u3, .string u4], .int .i64 k, .agg #[.int .u64 v0, .int .u64 v1, .int .u64 v2, .string v3, .string v4]] w fun e w' => e = .returned (.bool true) ∧ Below w.heap.size w w' := by
  cases h1 : (decide (u3.size ≤ 2147483647) && decide (u4.size ≤ 2147483647)) with
  | false => exact part_fu k u0 u1 u2 v0 v1 v2 u3 u4 v3 v4 h1 w
  | true =>
    cases h2 : (decide (v3.size ≤ 2147483647) && decide (v4.size ≤ 2147483647)) with
    | false => exact part_fv k u0 u1 u2 v0 v1 v2 u3 u4 v3 v4 h1 h2 w
    | true =>
      simp only [Bool.and_eq_true, decide_eq_true_eq] at h1 h2
      by_cases k1 : k < 1
      · exact part_lo k u0 u1 u2 v0 v1 v2 u3 u4 v3 v4 h1.1 h1.2 h2.1 h2.2 w he k1
      · by_cases k3 : 3 < k
        · exact part_hi k u0 u1 u2 v0 v1 v2 u3 u4 v3 v4 h1.1 h1.2 h2.1 h2.2 w he k3
        · have hk : k = 1 ∨ k = 2 ∨ k = 3 := by omega
          have hy := wfU _w7
          have hz := wfU _w8
          rcases hk with rfl | rfl | rfl
          · have HD : Hid (dirtyIs 1 true true false) := ⟨by decide, by decide, by decide⟩
            have H0 := holdIs_lt 1 u0 u1 u2 v0 v1 v2 u0 0 0 (by omega) true true false HD (fun W => stTerm_1 3 u0 u1 u2 ⟨#[]⟩ ⟨#[]⟩ W)
            have H1 := holdIs_eq 1 u0 u1 u2 v0 v1 v2 u0 0 0 (by omega) true true false HD (fun W => stTerm_1 0 u0 u1 u2 ⟨#[]⟩ ⟨#[]⟩ W)
            have H2 := holdIs_gt 1 u0 u1 u2 v0 v1 v2 u0 0 0 (by omega) true true false HD (fun W => stTerm_1 2 u0 u1 u2 ⟨#[]⟩ ⟨#[]⟩ W)
            rcases part_1 v0 v1 v2 u0 hy hz with ⟨p, q, r⟩ | ⟨p, q, r⟩ | ⟨p, q, r⟩ <;> rw [p] at H0 <;> rw [q] at H1 <;> rw [r] at H2
            · exact part_a 1 u0 u1 u2 v0 v1 v2 u3 u4 v3 v4 h1.1 h1.2 h2.1 h2.2 w he (by omega) H0 H1 H2
            · exact part_b 1 u0 u1 u2 v0 v1 v2 u3 u4 v3 v4 h1.1 h1.2 h2.1 h2.2 w he (by omega) H0 H1 H2
            · exact part_c 1 u0 u1 u2 v0 v1 v2 u3 u4 v3 v4 h1.1 h1.2 h2.1 h2.2 w he (by omega) H0 H1 H2
          · have HD : Hid (dirtyIs 2 true false true) := ⟨by decide, by decide, by decide⟩
            have H0 := holdIs_lt 2 u0 u1 u2 v0 v1 v2 u0 u1 0 (by omega) true false true HD (fun W => stTerm_2 3 u0 u1 u2 ⟨#[]⟩ ⟨#[]⟩ W)
            have H1 := holdIs_eq 2 u0 u1 u2 v0 v1 v2 u0 u1 0 (by omega) true false true HD (fun W => stTerm_2 0 u0 u1 u2 ⟨#[]⟩ ⟨#[]⟩ W)
            have H2 := holdIs_gt 2 u0 u1 u2 v0 v1 v2 u0 u1 0 (by omega) true false true HD (fun W => stTerm_2 2 u0 u1 u2 ⟨#[]⟩ ⟨#[]⟩ W)
            rcases part_2 v0 v1 v2 u0 u1 hz with ⟨p, q, r⟩ | ⟨p, q, r⟩ | ⟨p, q, r⟩ <;> rw [p] at H0 <;> rw [q] at H1 <;> rw [r] at H2
            · exact part_a 2 u0 u1 u2 v0 v1 v2 u3 u4 v3 v4 h1.1 h1.2 h2.1 h2.2 w he (by omega) H0 H1 H2
            · exact part_b 2 u0 u1 u2 v0 v1 v2 u3 u4 v3 v4 h1.1 h1.2 h2.1 h2.2 w he (by omega) H0 H1 H2
            · exact part_c 2 u0 u1 u2 v0 v1 v2 u3 u4 v3 v4 h1.1 h1.2 h2.1 h2.2 w he (by omega) H0 H1 H2
          · have HD : Hid (dirtyIs 3 false false false) := ⟨by decide, by decide, by decide⟩
            have H0 := holdIs_lt 3 u0 u1 u2 v0 v1 v2 u0 u1 u2 (by omega) false false false HD (fun W => stTermC_3 3 u0 u1 u2 ⟨#[]⟩ ⟨#[]⟩ W)
            have H1 := holdIs_eq 3 u0 u1 u2 v0 v1 v2 u0 u1 u2 (by omega) false false false HD (fun W => stTermC_3 0 u0 u1 u2 ⟨#[]⟩ ⟨#[]⟩ W)
            have H2 := holdIs_gt 3 u0 u1 u2 v0 v1 v2 u0 u1 u2 (by omega) false false false HD (fun W => stTermC_3 2 u0 u1 u2 ⟨#[]⟩ ⟨#[]⟩ W)
            rcases part_3 v0 v1 v2 u0 u1 u2 with ⟨p, q, r⟩ | ⟨p, q, r⟩ | ⟨p, q, r⟩ <;> rw [p] at H0 <;> rw [q] at H1 <;> rw [r] at H2
            · exact part_a 3 u0 u1 u2 v0 v1 v2 u3 u4 v3 v4 h1.1 h1.2 h2.1 h2.2 w he (by omega) H0 H1 H2
            · exact part_b 3 u0 u1 u2 v0 v1 v2 u3 u4 v3 v4 h1.1 h1.2 h2.1 h2.2 w he (by omega) H0 H1 H2
            · exact part_c 3 u0 u1 u2 v0 v1 v2 u3 u4 v3 v4 h1.1 h1.2 h2.1 h2.2 w he (by omega) H0 H1 H2
end Go.Proofs.YtdlpcfhhpjjjmaaDoor
