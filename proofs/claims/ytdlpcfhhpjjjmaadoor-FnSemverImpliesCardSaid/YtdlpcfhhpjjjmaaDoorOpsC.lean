/- check at the texts of ~, ^. -/
import Derived.Test.YtdlpcfhhpjjjmaaDoorOps
import Derived.Test.YtdlpcfhhpjjjmaaDoorConCarJ
namespace Go.Proofs.YtdlpcfhhpjjjmaaDoor
open Go.RowKit
set_option linter.unusedVariables false
set_option linter.unusedSimpArgs false

set_option maxRecDepth 100000 in
set_option maxHeartbeats 1000000 in
theorem checkIs_ti (x y z a b c : Int) (q p : ByteArray) (dy md pd pre : Bool) (hq : q.size ≤ 2147483654) (hp : p.size ≤ 2147483654) :
    CheckIs ⟨#[126]⟩ x y z a b c q p dy md pd pre (tildeB pre q p x y z a b c md pd) := by
  intro g j k n r m o W hg hj hk hne he
  have H := Lib.hid (tilde_any g j k x y z a b c q n r p m o ⟨#[126]⟩ dy md pd pre W hg hj hk hq hp he)
  generalize tildeB pre _ _ _ _ _ _ _ _ _ _ = T at H ⊢
  have e2 : W.cell? ⟨k, 2, none⟩ = some (.string ⟨#[126]⟩) := hk.cell 2
  go_enter Tryd.func104, Tryd.ntmps104
  go_wp2_with fail
  refine H.out.mono ?_
  rintro e w' ⟨ev, rfl, hb⟩
  go_wp2_with fail
  go_ret2
  exact ⟨_, rfl, hb⟩

set_option maxRecDepth 100000 in
set_option maxHeartbeats 1000000 in
theorem checkIs_ca (x y z a b c : Int) (q p : ByteArray) (dy md pd pre : Bool) (hq : q.size ≤ 2147483654) (hp : p.size ≤ 2147483654) (ha0 : 0 ≤ a) (hb0 : 0 ≤ b) (hx0 : 0 ≤ x) (hy0 : 0 ≤ y) :
    CheckIs ⟨#[94]⟩ x y z a b c q p dy md pd pre (shutB q.toList.isEmpty pre (caretV (decide (cmpI x y z q a b c p < 0)) (decide (0 < a)) md (decide (x = a)) (decide (0 < x)) (decide (0 < b)) pd (decide (y = b)) (decide (0 < y)) (decide (z = c)))) := by
  intro g j k n r m o W hg hj hk hne he
  have H := Lib.hid (car_any g j k x y z a b c q n r p m o ⟨#[94]⟩ dy md pd pre W hg hj hk hq hp he ha0 hb0 hx0 hy0 (fun h1 h2 => car_shut g j k x y z a b c q n r p m o ⟨#[94]⟩ dy md pd pre W hg hj hk hq hp he _ rfl h1 h2))
  generalize shutB q.toList.isEmpty pre _ = T at H ⊢
  have e2 : W.cell? ⟨k, 2, none⟩ = some (.string ⟨#[94]⟩) := hk.cell 2
  go_enter Tryd.func104, Tryd.ntmps104
  go_wp2_with fail
  refine H.out.mono ?_
  rintro e w' ⟨ev, rfl, hb⟩
  go_wp2_with fail
  go_ret2
  exact ⟨_, rfl, hb⟩

end Go.Proofs.YtdlpcfhhpjjjmaaDoor
