/- spec.GoodTerm at fewer than three numbers. -/
import Derived.Test.YtdlpcfhhpjjjmaaDoorGoodTerm
namespace Go.Proofs.YtdlpcfhhpjjjmaaDoor
open Go.RowKit
set_option linter.unusedVariables false
set_option linter.unusedSimpArgs false

set_option maxRecDepth 100000 in
set_option maxHeartbeats 8000000 in
theorem goodTerm_0 (o a b c : Int) (p : ByteArray) (hp : p.size ≤ 2147483653) (w : World) :
    Calls Tryd.prog 31 #[.agg (termC o 0 a b c p)] w (GoodPost (TermOk o 0 a b c p) w) := by
  go_enter Tryd.func31, Tryd.ntmps31
  go_wp2_with fail
  all_goals
    go_ret
    refine ⟨_, rfl, Below.alloc (Below.refl _ _) (Nat.le_refl _) _, fun h => ?_⟩
    first
    | exact absurd h (by decide)
    | (unfold TermOk; simp_all <;> omega)

set_option maxRecDepth 100000 in
set_option maxHeartbeats 8000000 in
theorem goodTerm_1 (o a b c : Int) (p : ByteArray) (hp : p.size ≤ 2147483653) (w : World) :
    Calls Tryd.prog 31 #[.agg (termC o 1 a b c p)] w (GoodPost (TermOk o 1 a b c p) w) := by
  go_enter Tryd.func31, Tryd.ntmps31
  go_wp2_with fail
  all_goals
    go_ret
    refine ⟨_, rfl, Below.alloc (Below.refl _ _) (Nat.le_refl _) _, fun h => ?_⟩
    first
    | exact absurd h (by decide)
    | (unfold TermOk; simp_all <;> omega)

set_option maxRecDepth 100000 in
set_option maxHeartbeats 8000000 in
theorem goodTerm_2 (o a b c : Int) (p : ByteArray) (hp : p.size ≤ 2147483653) (w : World) :
    Calls Tryd.prog 31 #[.agg (termC o 2 a b c p)] w (GoodPost (TermOk o 2 a b c p) w) := by
  go_enter Tryd.func31, Tryd.ntmps31
  go_wp2_with fail
  all_goals
    go_ret
    refine ⟨_, rfl, Below.alloc (Below.refl _ _) (Nat.le_refl _) _, fun h => ?_⟩
    first
    | exact absurd h (by decide)
    | (unfold TermOk; simp_all <;> omega)

end Go.Proofs.YtdlpcfhhpjjjmaaDoor
