/- spec.GoodTerm: what its yes says. -/
import Derived.Test.YtdlpcfhhpjjjmaaDoorSpecOk
import Derived.Test.YtdlpcfhhpjjjmaaDoorTerm
namespace Go.Proofs.YtdlpcfhhpjjjmaaDoor
open Go.RowKit
set_option linter.unusedVariables false
set_option linter.unusedSimpArgs false

def TermOk (o g a b c : Int) (p : ByteArray) : Prop :=
  0 ≤ o ∧ o < 8 ∧ 0 ≤ g ∧ g ≤ 3 ∧ (g = 0 → o = 0 ∨ o = 4 ∨ o = 6) ∧ ¬ (g = 3 ∧ o = 6 ∧ a = 0 ∧ b = 0 ∧ c = 0) ∧ (g < 3 → c = 0 ∧ p.toList = []) ∧ (g < 2 → b = 0) ∧ (g < 1 → a = 0) ∧ (p.toList = [] ∨ (vpreB p = true ∧ smallB p = true))

def GoodPost (T : Prop) (w : World) (e : Ending) (w' : World) : Prop := ∃ r, e = .returned (.bool r) ∧ Below w.heap.size w w' ∧ (r = true → T)

end Go.Proofs.YtdlpcfhhpjjjmaaDoor
