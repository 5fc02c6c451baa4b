/- check at the texts of !=, <=. -/
import Derived.Test.YtdlpcfhhpjjjmaaDoorOps
import Derived.Test.YtdlpcfhhpjjjmaaDoorConNeqJ
import Derived.Test.YtdlpcfhhpjjjmaaDoorConMst
namespace Go.Proofs.YtdlpcfhhpjjjmaaDoor
open Go.RowKit
set_option linter.unusedVariables false
set_option linter.unusedSimpArgs false

set_option maxRecDepth 100000 in
set_option maxHeartbeats 1000000 in
theorem checkIs_ne (x y z a b c : Int) (q p : ByteArray) (dy md pd pre : Bool) (hq : q.size ≤ 2147483654) (hp : p.size ≤ 2147483654) (hpp : pd = true → p.toList = []) :
    CheckIs ⟨#[33, 61]⟩ x y z a b c q p dy md pd pre (shutB q.toList.isEmpty pre (notV dy md pd (decide (x = a)) (decide (y = b)) (decide (z = c)) (apart q p) (cmpI x y z q a b c p != 0))) := by
  intro g j k n r m o W hg hj hk hne he
  have H := Lib.hid (neq_any g j k x y z a b c q n r p m o ⟨#[33, 61]⟩ dy md pd pre W hg hj hk hq hp he hne hpp (fun h1 h2 => neq_shut g j k x y z a b c q n r p m o ⟨#[33, 61]⟩ dy md pd pre W hg hj hk hq hp he _ rfl h1 h2))
  generalize shutB q.toList.isEmpty pre _ = T at H ⊢
  have e2 : W.cell? ⟨k, 2, none⟩ = some (.string ⟨#[33, 61]⟩) := hk.cell 2
  go_enter Tryd.func104, Tryd.ntmps104
  go_wp2_with fail
  refine H.out.mono ?_
  rintro e w' ⟨ev, rfl, hb⟩
  go_wp2_with fail
  go_ret2
  exact ⟨_, rfl, hb⟩

set_option maxRecDepth 100000 in
set_option maxHeartbeats 1000000 in
theorem checkIs_le (x y z a b c : Int) (q p : ByteArray) (dy md pd pre : Bool) (hq : q.size ≤ 2147483654) (hp : p.size ≤ 2147483654) :
    CheckIs ⟨#[60, 61]⟩ x y z a b c q p dy md pd pre (shutB q.toList.isEmpty pre (mostV dy md (decide (a < x)) (decide (x < a)) (decide (b < y)) (decide (cmpI x y z q a b c p ≤ 0)))) := by
  intro g j k n r m o W hg hj hk hne he
  have H := Lib.hid (mst_any g j k x y z a b c q n r p m o ⟨#[60, 61]⟩ dy md pd pre W hg hj hk hq hp he (fun h1 h2 => mst_shut g j k x y z a b c q n r p m o ⟨#[60, 61]⟩ dy md pd pre W hg hj hk hq hp he _ rfl h1 h2))
  generalize shutB q.toList.isEmpty pre _ = T at H ⊢
  have e2 : W.cell? ⟨k, 2, none⟩ = some (.string ⟨#[60, 61]⟩) := hk.cell 2
  go_enter Tryd.func104, Tryd.ntmps104
  go_wp2_with fail
  refine H.out.mono ?_
  rintro e w' ⟨ev, rfl, hb⟩
  go_wp2_with fail
  go_ret2
  exact ⟨_, rfl, hb⟩

end Go.Proofs.YtdlpcfhhpjjjmaaDoor
