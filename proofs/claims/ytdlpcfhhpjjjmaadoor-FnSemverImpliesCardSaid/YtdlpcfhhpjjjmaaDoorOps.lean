/- impl.operator at each operator; check at the texts of =, >, <, >=. -/
import Derived.Test.YtdlpcfhhpjjjmaaDoorTermHolds
import Derived.Test.YtdlpcfhhpjjjmaaDoorConS
import Derived.Test.YtdlpcfhhpjjjmaaDoorConAbv
import Derived.Test.YtdlpcfhhpjjjmaaDoorConEqt
namespace Go.Proofs.YtdlpcfhhpjjjmaaDoor
open Go.RowKit
set_option linter.unusedVariables false
set_option linter.unusedSimpArgs false

theorem opIs_0 : OpIs 0 ⟨#[61]⟩ := by
  intro W
  go_enter Tryd.func99, Tryd.ntmps99
  go_wp2
  go_ret
  exact ⟨rfl, rfl⟩
theorem opIs_1 : OpIs 1 ⟨#[33, 61]⟩ := by
  intro W
  go_enter Tryd.func99, Tryd.ntmps99
  go_wp2
  go_ret
  exact ⟨rfl, rfl⟩
theorem opIs_2 : OpIs 2 ⟨#[62]⟩ := by
  intro W
  go_enter Tryd.func99, Tryd.ntmps99
  go_wp2
  go_ret
  exact ⟨rfl, rfl⟩
theorem opIs_3 : OpIs 3 ⟨#[60]⟩ := by
  intro W
  go_enter Tryd.func99, Tryd.ntmps99
  go_wp2
  go_ret
  exact ⟨rfl, rfl⟩
theorem opIs_4 : OpIs 4 ⟨#[62, 61]⟩ := by
  intro W
  go_enter Tryd.func99, Tryd.ntmps99
  go_wp2
  go_ret
  exact ⟨rfl, rfl⟩
theorem opIs_5 : OpIs 5 ⟨#[60, 61]⟩ := by
  intro W
  go_enter Tryd.func99, Tryd.ntmps99
  go_wp2
  go_ret
  exact ⟨rfl, rfl⟩
theorem opIs_6 : OpIs 6 ⟨#[126]⟩ := by
  intro W
  go_enter Tryd.func99, Tryd.ntmps99
  go_wp2
  go_ret
  exact ⟨rfl, rfl⟩
theorem opIs_7 : OpIs 7 ⟨#[94]⟩ := by
  intro W
  go_enter Tryd.func99, Tryd.ntmps99
  go_wp2
  go_ret
  exact ⟨rfl, rfl⟩

set_option maxRecDepth 100000 in
set_option maxHeartbeats 1000000 in
theorem checkIs_gt (x y z a b c : Int) (q p : ByteArray) (dy md pd pre : Bool) (hq : q.size ≤ 2147483654) (hp : p.size ≤ 2147483654) :
    CheckIs ⟨#[62]⟩ x y z a b c q p dy md pd pre (shutB q.toList.isEmpty pre (aboveV dy md pd (decide (a < x)) (decide (x < a)) (decide (b < y)) (cmpI x y z q a b c p == 1))) := by
  intro g j k n r m o W hg hj hk hne he
  have H := Lib.hid (abv_any g j k x y z a b c q n r p m o ⟨#[62]⟩ dy md pd pre W hg hj hk hq hp he (fun h1 h2 => abv_shut g j k x y z a b c q n r p m o ⟨#[62]⟩ dy md pd pre W hg hj hk hq hp he _ rfl h1 h2))
  generalize shutB q.toList.isEmpty pre _ = T at H ⊢
  have e2 : W.cell? ⟨k, 2, none⟩ = some (.string ⟨#[62]⟩) := hk.cell 2
  go_enter Tryd.func104, Tryd.ntmps104
  go_wp2_with fail
  refine H.out.mono ?_
  rintro e w' ⟨ev, rfl, hb⟩
  go_wp2_with fail
  go_ret2
  exact ⟨_, rfl, hb⟩

set_option maxRecDepth 100000 in
set_option maxHeartbeats 1000000 in
theorem checkIs_lt (x y z a b c : Int) (q p : ByteArray) (dy md pd pre : Bool) (hq : q.size ≤ 2147483654) (hp : p.size ≤ 2147483654) :
    CheckIs ⟨#[60]⟩ x y z a b c q p dy md pd pre (shutB q.toList.isEmpty pre (decide (cmpI x y z q a b c p < 0))) := by
  intro g j k n r m o W hg hj hk hne he
  have H := Lib.hid (les_any g j k x y z a b c q n r p m o ⟨#[60]⟩ dy md pd pre W hg hj hk hq hp he)
  generalize shutB q.toList.isEmpty pre _ = T at H ⊢
  have e2 : W.cell? ⟨k, 2, none⟩ = some (.string ⟨#[60]⟩) := hk.cell 2
  go_enter Tryd.func104, Tryd.ntmps104
  go_wp2_with fail
  refine H.out.mono ?_
  rintro e w' ⟨ev, rfl, hb⟩
  go_wp2_with fail
  go_ret2
  exact ⟨_, rfl, hb⟩

set_option maxRecDepth 100000 in
set_option maxHeartbeats 1000000 in
theorem checkIs_ge (x y z a b c : Int) (q p : ByteArray) (dy md pd pre : Bool) (hq : q.size ≤ 2147483654) (hp : p.size ≤ 2147483654) :
    CheckIs ⟨#[62, 61]⟩ x y z a b c q p dy md pd pre (shutB q.toList.isEmpty pre (decide (0 ≤ cmpI x y z q a b c p))) := by
  intro g j k n r m o W hg hj hk hne he
  have H := Lib.hid (geq_any g j k x y z a b c q n r p m o ⟨#[62, 61]⟩ dy md pd pre W hg hj hk hq hp he)
  generalize shutB q.toList.isEmpty pre _ = T at H ⊢
  have e2 : W.cell? ⟨k, 2, none⟩ = some (.string ⟨#[62, 61]⟩) := hk.cell 2
  go_enter Tryd.func104, Tryd.ntmps104
  go_wp2_with fail
  refine H.out.mono ?_
  rintro e w' ⟨ev, rfl, hb⟩
  go_wp2_with fail
  go_ret2
  exact ⟨_, rfl, hb⟩

set_option maxRecDepth 100000 in
set_option maxHeartbeats 1000000 in
theorem checkIs_eq (x y z a b c : Int) (q p : ByteArray) (dy md pd pre : Bool) (hq : q.size ≤ 2147483654) (hp : p.size ≤ 2147483654) :
    CheckIs ⟨#[61]⟩ x y z a b c q p dy md pd pre (shutB q.toList.isEmpty pre (equalV dy (tildeB pre q p x y z a b c md pd) (cmpI x y z q a b c p == 0))) := by
  intro g j k n r m o W hg hj hk hne he
  have H := Lib.hid (eqt_any g j k x y z a b c q n r p m o ⟨#[61]⟩ dy md pd pre W hg hj hk hq hp he hne (fun h1 h2 => eqt_shut g j k x y z a b c q n r p m o ⟨#[61]⟩ dy md pd pre W hg hj hk hq hp he _ rfl h1 h2))
  generalize shutB q.toList.isEmpty pre _ = T at H ⊢
  have e2 : W.cell? ⟨k, 2, none⟩ = some (.string ⟨#[61]⟩) := hk.cell 2
  go_enter Tryd.func104, Tryd.ntmps104
  go_wp2_with fail
  refine H.out.mono ?_
  rintro e w' ⟨ev, rfl, hb⟩
  go_wp2_with fail
  go_ret2
  exact ⟨_, rfl, hb⟩
end Go.Proofs.YtdlpcfhhpjjjmaaDoor
