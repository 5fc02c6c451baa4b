/- semver.constraintCaret, whole. -/
import Derived.Test.YtdlpcfhhpjjjmaaDoorConCar
import Derived.Test.YtdlpcfhhpjjjmaaDoorConCarB
namespace Go.Proofs.YtdlpcfhhpjjjmaaDoor
open Go.RowKit
set_option linter.unusedVariables false
set_option linter.unusedSimpArgs false

/-- What ^ answers. -/
def caretV (lo ap md xa xp bp pd yb yp zc : Bool) : Bool := bif lo then false else bif (ap || md) then xa else bif xp then false else bif (bp || pd) then yb else bif yp then false else zc

theorem car_any (g j k : Nat) (x y z a b c : Int) (q n r p m o s : ByteArray) (dy md pd pre : Bool) (w : World) (hg : VerAt w g (verC x y z q n r)) (hj : VerAt w j (verC a b c p m o)) (hk : ConAt w k #[.pointer (some ⟨j, 0, none⟩), .string ⟨#[]⟩, .string s, .bool md, .bool dy, .bool pd]) (hq : q.size ≤ 2147483654) (hp : p.size ≤ 2147483654) (he : Hid (Errs w)) (ha0 : 0 ≤ a) (hb0 : 0 ≤ b) (hx0 : 0 ≤ x) (hy0 : 0 ≤ y) (hsh : q.toList.isEmpty = false → pre = false → Calls Tryd.prog 110 #[.pointer (some ⟨g, 0, none⟩), .pointer (some ⟨k, 0, none⟩), .bool pre] w (HoldPost false w)) :
    Calls Tryd.prog 110 #[.pointer (some ⟨g, 0, none⟩), .pointer (some ⟨k, 0, none⟩), .bool pre] w (HoldPost (shutB q.toList.isEmpty pre (caretV (decide ((cmpI x y z q a b c p) < 0)) (decide (0 < a)) md (decide (x = a)) (decide (0 < x)) (decide (0 < b)) pd (decide (y = b)) (decide (0 < y)) (decide (z = c)))) w) := by
  obtain ⟨R, HR⟩ : ∃ R, Hid (cmpI x y z q a b c p = R) := ⟨_, rfl⟩
  rw [HR.out]
  rcases open_or q pre with h0 | ⟨h1, h2⟩
  · rw [shut_open q pre _ h0]
    by_cases hr : R < 0
    · rw [decide_eq_true hr]; exact car_lo g j k x y z a b c q n r p m o s dy md pd pre w hg hj hk hq hp he R HR h0 hr
    · rw [decide_eq_false hr]
      by_cases ha : 0 < a
      · rw [decide_eq_true ha]
        by_cases hx : x = a
        · rw [decide_eq_true hx]; exact car_a1 g j k x y z a b c q n r p m o s dy md pd pre w hg hj hk hq hp he R HR h0 hr ha hx
        · rw [decide_eq_false hx]; exact car_a0 g j k x y z a b c q n r p m o s dy md pd pre w hg hj hk hq hp he R HR h0 hr ha hx
      · rw [decide_eq_false ha]
        have ha9 : a = 0 := by omega
        cases hm : md with
        | true =>
          subst hm
          by_cases hx : x = a
          · rw [decide_eq_true hx]; exact car_m1 g j k x y z a b c q n r p m o s dy true pd pre w hg hj hk hq hp he R HR h0 hr ha9 rfl (by omega)
          · rw [decide_eq_false hx]; exact car_m0 g j k x y z a b c q n r p m o s dy true pd pre w hg hj hk hq hp he R HR h0 hr ha9 rfl (by omega)
        | false =>
          subst hm
          by_cases hx : 0 < x
          · rw [decide_eq_true hx]; exact car_x g j k x y z a b c q n r p m o s dy false pd pre w hg hj hk hq hp he R HR h0 hr ha9 rfl hx
          · rw [decide_eq_false hx]
            have hx9 : x = 0 := by omega
            by_cases hb : 0 < b
            · rw [decide_eq_true hb]
              by_cases hy : y = b
              · rw [decide_eq_true hy]; exact car_b1 g j k x y z a b c q n r p m o s dy false pd pre w hg hj hk hq hp he R HR h0 hr ha9 rfl hx9 hb hy
              · rw [decide_eq_false hy]; exact car_b0 g j k x y z a b c q n r p m o s dy false pd pre w hg hj hk hq hp he R HR h0 hr ha9 rfl hx9 hb hy
            · rw [decide_eq_false hb]
              have hb9 : b = 0 := by omega
              cases hp2 : pd with
              | true =>
                subst hp2
                by_cases hy : y = b
                · rw [decide_eq_true hy]; exact car_p1 g j k x y z a b c q n r p m o s dy false true pre w hg hj hk hq hp he R HR h0 hr ha9 rfl hx9 hb9 rfl (by omega)
                · rw [decide_eq_false hy]; exact car_p0 g j k x y z a b c q n r p m o s dy false true pre w hg hj hk hq hp he R HR h0 hr ha9 rfl hx9 hb9 rfl (by omega)
              | false =>
                subst hp2
                by_cases hy : 0 < y
                · rw [decide_eq_true hy]; exact car_y g j k x y z a b c q n r p m o s dy false false pre w hg hj hk hq hp he R HR h0 hr ha9 rfl hx9 hb9 rfl hy
                · rw [decide_eq_false hy]
                  have hy9 : y = 0 := by omega
                  by_cases hz : z = c
                  · rw [decide_eq_true hz]; exact car_z1 g j k x y z a b c q n r p m o s dy false false pre w hg hj hk hq hp he R HR h0 hr ha9 rfl hx9 hb9 rfl hy9 hz
                  · rw [decide_eq_false hz]; exact car_z0 g j k x y z a b c q n r p m o s dy false false pre w hg hj hk hq hp he R HR h0 hr ha9 rfl hx9 hb9 rfl hy9 hz
  · rw [shut_shut q pre _ h1 h2]
    exact hsh h1 h2

end Go.Proofs.YtdlpcfhhpjjjmaaDoor
