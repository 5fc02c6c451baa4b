/- spec.GoodTerm at other numbers. -/
import Derived.Test.YtdlpcfhhpjjjmaaDoorGoodTerm
namespace Go.Proofs.YtdlpcfhhpjjjmaaDoor
open Go.RowKit
set_option linter.unusedVariables false
set_option linter.unusedSimpArgs false

set_option maxRecDepth 100000 in
set_option maxHeartbeats 8000000 in
theorem goodTerm_lo (o g a b c : Int) (p : ByteArray) (hg : g < 0) (w : World) :
    Calls Tryd.prog 31 #[.agg (termC o g a b c p)] w (GoodPost (TermOk o g a b c p) w) := by
  have g0 : (g == 0) = false := by simp; omega
  have g3 : (g == 3) = false := by simp; omega
  have g4 : (g = 0) = False := by simp; omega
  have g5 : (g = 3) = False := by simp; omega
  have g6 : (g < 0) = True := by simp; omega
  have g7 : (3 < g) = False := by simp; omega
  go_enter Tryd.func31, Tryd.ntmps31
  go_wp2_with fail
  all_goals
    go_ret
    refine ⟨_, rfl, Below.alloc (Below.refl _ _) (Nat.le_refl _) _, fun h => ?_⟩
    exact absurd h (by decide)

set_option maxRecDepth 100000 in
set_option maxHeartbeats 8000000 in
theorem goodTerm_hi (o g a b c : Int) (p : ByteArray) (hg : 3 < g) (w : World) :
    Calls Tryd.prog 31 #[.agg (termC o g a b c p)] w (GoodPost (TermOk o g a b c p) w) := by
  have g0 : (g == 0) = false := by simp; omega
  have g3 : (g == 3) = false := by simp; omega
  have g4 : (g = 0) = False := by simp; omega
  have g5 : (g = 3) = False := by simp; omega
  have g6 : (g < 0) = False := by simp; omega
  have g7 : (3 < g) = True := by simp; omega
  go_enter Tryd.func31, Tryd.ntmps31
  go_wp2_with fail
  all_goals
    go_ret
    refine ⟨_, rfl, Below.alloc (Below.refl _ _) (Nat.le_refl _) _, fun h => ?_⟩
    exact absurd h (by decide)

end Go.Proofs.YtdlpcfhhpjjjmaaDoor
