/- FnCronNext over its parameters' cells. -/
import Derived.Test.YtpgclepiagfgfaaTsP
namespace Go.Proofs.Ytpgclepiagfgfaa
open Go.RowKit
set_option linter.unusedVariables false
set_option linter.unusedSimpArgs false

theorem wf_nat {x : Int} (h : (Lit.int .u64 x).wf = true) : ∃ n : Nat, x = n ∧ n < 18446744073709551616 := by
  have : 0 ≤ x ∧ x < 18446744073709551616 := by
    have h2 : (decide (IntKind.u64.min ≤ x) && decide (x ≤ IntKind.u64.max)) = true := h
    have e1 : IntKind.u64.min = 0 := by decide
    have e2 : IntKind.u64.max = 18446744073709551615 := by decide
    rw [e1, e2] at h2
    simp only [Bool.and_eq_true, decide_eq_true_eq] at h2
    omega
  exact ⟨x.toNat, by omega, by omega⟩
theorem law_cronNext (a0_0 : Bool) (a0_1 : Int) (a0_2 : Int) (a0_3 : Int) (a0_4 : Int) (a0_5 : Int) (a0_6 : Int) (a0_7 : Int) (a1_0 a1_1 : Int) (w0_1 : (Lit.int .i64 a0_1).wf = true) (w0_2 : (Lit.int .u64 a0_2).wf = true) (w0_3 : (Lit.int .u64 a0_3).wf = true) (w0_4 : (Lit.int .u64 a0_4).wf = true) (w0_5 : (Lit.int .u64 a0_5).wf = true) (w0_6 : (Lit.int .u64 a0_6).wf = true) (w0_7 : (Lit.int .u64 a0_7).wf = true) (w1_0 : (Lit.int .i64 a1_0).wf = true) (w1_1 : (Lit.int .i64 a1_1).wf = true) (w : World) :
    Calls Try.prog 4 #[.agg #[.bool a0_0, .int .i64 a0_1, .int .u64 a0_2, .int .u64 a0_3, .int .u64 a0_4, .int .u64 a0_5, .int .u64 a0_6, .int .u64 a0_7], .agg #[.int .i64 a1_0, .int .i64 a1_1]] w fun e w' => e = .returned (.bool true) ∧ Below w.heap.size w w' := by
  obtain ⟨se, rfl, h0⟩ := wf_nat w0_2
  obtain ⟨mi, rfl, h1⟩ := wf_nat w0_3
  obtain ⟨ho, rfl, h2⟩ := wf_nat w0_4
  obtain ⟨dom, rfl, h3⟩ := wf_nat w0_5
  obtain ⟨mo, rfl, h4⟩ := wf_nat w0_6
  obtain ⟨dow, rfl, h5⟩ := wf_nat w0_7
  exact cronNext_law ⟨se, mi, ho, dom, mo, dow⟩ (Lib.hid ⟨h0, h1, h2, h3, h4, h5⟩) a0_0 a0_1 a1_0 a1_1 w
end Go.Proofs.Ytpgclepiagfgfaa
