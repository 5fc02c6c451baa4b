/- impl.TildeHolds at any number of given numbers. -/
import Derived.Test.YtdlpcfhhpjjjmaaDoorTildeHolds
namespace Go.Proofs.YtdlpcfhhpjjjmaaDoor
open Go.RowKit
set_option linter.unusedVariables false
set_option linter.unusedSimpArgs false

theorem tildeHolds_any (o g a b c x y z : Int) (hg : 0 ≤ g ∧ g ≤ 3) (p q n : ByteArray) (pre : Bool) (w : World) (hp : p.size ≤ 2147483654) (hq : q.size ≤ 2147483654) (he : Hid (Errs w)) :
    Calls Tryd.prog 27 #[.agg (termC o g a b c p), .agg (plainC x y z q n), .bool pre] w (BoolPost (tildeB pre q p x y z a b c (decide (g = 1)) (decide (g = 2))) w) := by
  have h3 : g = 0 ∨ g = 1 ∨ g = 2 ∨ g = 3 := by omega
  rcases h3 with rfl | rfl | rfl | rfl
  · exact tildeHolds_0 o a b c x y z p q n pre w hp hq he
  · exact tildeHolds_1 o a b c x y z p q n pre w hp hq he
  · exact tildeHolds_2 o a b c x y z p q n pre w hp hq he
  · exact tildeHolds_3 o a b c x y z p q n pre w hp hq he
end Go.Proofs.YtdlpcfhhpjjjmaaDoor
