/- laws.FnSemverIncReach returns true for every input, the row's own form. -/
import Derived.Test.YtjlbljajgkiniaaDoorWReach
namespace Go.Proofs.YtjlbljajgkiniaaDoor
open Go.RowKit
set_option linter.unusedVariables false

theorem wf64r {a : Int} (h : (Lit.int .u64 a).wf = true) : 0 ≤ a ∧ a < 18446744073709551616 := by
  have h2 : (decide (IntKind.u64.min ≤ a) && decide (a ≤ IntKind.u64.max)) = true := h
  have e1 : IntKind.u64.min = 0 := by decide
  have e2 : IntKind.u64.max = 18446744073709551615 := by decide
  rw [e1, e2] at h2
  simp only [Bool.and_eq_true, decide_eq_true_eq] at h2
  omega
theorem reach_law (a b c : Int) (p m : ByteArray) (x y z : Int) (q n : ByteArray) (w0 : (Lit.int .u64 a).wf = true) (w1 : (Lit.int .u64 b).wf = true) (w2 : (Lit.int .u64 c).wf = true) (_w3 : p.size ≤ maxLen) (_w4 : m.size ≤ maxLen)
    (v0 : (Lit.int .u64 x).wf = true) (v1 : (Lit.int .u64 y).wf = true) (v2 : (Lit.int .u64 z).wf = true) (_v3 : q.size ≤ maxLen) (_v4 : n.size ≤ maxLen) (w : World) (he : Hid (Both w)) :
    Calls Tryd.prog 3 #[.agg #[.int .u64 a, .int .u64 b, .int .u64 c, .string p, .string m], .agg #[.int .u64 x, .int .u64 y, .int .u64 z, .string q, .string n]] w fun e w' => e = .returned (.bool true) ∧ Below w.heap.size w w' :=
  reach_walk a b c x y z p m q n (Lib.hid ⟨wf64r w0, wf64r w1, wf64r w2⟩) (Lib.hid ⟨wf64r v0, wf64r v1, wf64r v2⟩) w he
end Go.Proofs.YtjlbljajgkiniaaDoor
