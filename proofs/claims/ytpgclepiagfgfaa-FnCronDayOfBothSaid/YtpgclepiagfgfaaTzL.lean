/- FnCronDayOfBoth over its parameters' cells. -/
import Derived.Test.YtpgclepiagfgfaaTzJ
import Derived.Test.YtpgclepiagfgfaaTrodZone
namespace Go.Proofs.Ytpgclepiagfgfaa
open Go.RowKit
set_option linter.unusedVariables false

theorem wf_natZ {x : Int} (h : (Lit.int .u64 x).wf = true) : ∃ n : Nat, x = n ∧ n < 18446744073709551616 := by
  have : 0 ≤ x ∧ x < 18446744073709551616 := by
    have h2 : (decide (IntKind.u64.min ≤ x) && decide (x ≤ IntKind.u64.max)) = true := h
    have e1 : IntKind.u64.min = 0 := by decide
    have e2 : IntKind.u64.max = 18446744073709551615 := by decide
    rw [e1, e2] at h2
    simp only [Bool.and_eq_true, decide_eq_true_eq] at h2
    omega
  exact ⟨x.toNat, by omega, by omega⟩
theorem law_dayOfBoth (a0 a1 a2_0 a2_1 : Int) (offs : List Int) (dsts : List Bool) (whens idxs : List Int) (zv : Value) (w0 : (Lit.int .u64 a0).wf = true) (w1 : (Lit.int .u64 a1).wf = true) (w2_0 : (Lit.int .i64 a2_0).wf = true) (w2_1 : (Lit.int .i64 a2_1).wf = true) (w : World) (hz : ZoneAt w zv offs dsts whens idxs) :
    Calls Try.prog 3 #[.int .u64 a0, .int .u64 a1, .agg #[.int .i64 a2_0, .int .i64 a2_1], zv] w fun e w' => e = .returned (.bool true) ∧ Below w.heap.size w w' := by
  obtain ⟨dom, rfl, h0⟩ := wf_natZ w0
  obtain ⟨dow, rfl, h1⟩ := wf_natZ w1
  exact dayOfBoth_law dom dow h0 h1 zv offs dsts whens idxs a2_0 a2_1 w (Lib.hid hz)
end Go.Proofs.Ytpgclepiagfgfaa
