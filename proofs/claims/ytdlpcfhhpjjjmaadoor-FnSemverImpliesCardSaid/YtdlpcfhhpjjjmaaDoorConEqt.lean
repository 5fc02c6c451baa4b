/- semver.constraintTildeOrEqual. -/
import Derived.Test.YtdlpcfhhpjjjmaaDoorConB
import Derived.Test.YtdlpcfhhpjjjmaaDoorTildeD
namespace Go.Proofs.YtdlpcfhhpjjjmaaDoor
open Go.RowKit
set_option linter.unusedVariables false
set_option linter.unusedSimpArgs false

set_option maxRecDepth 100000 in
set_option maxHeartbeats 16000000 in
theorem eqq_1 (g j k : Nat) (x y z a b c : Int) (q n r p m o s : ByteArray) (dy md pd pre : Bool) (w : World) (hg : VerAt w g (verC x y z q n r)) (hj : VerAt w j (verC a b c p m o)) (hk : ConAt w k #[.pointer (some ⟨j, 0, none⟩), .string ⟨#[]⟩, .string s, .bool md, .bool dy, .bool pd]) (hq : q.size ≤ 2147483654) (hp : p.size ≤ 2147483654) (he : Hid (Errs w)) (R : Int) (HR : Hid (cmpI x y z q a b c p = R)) (hne : g ≠ j) (h0 : openP q pre) (hd : dy = false) (hR : R = 0) :
    Calls Tryd.prog 105 #[.pointer (some ⟨g, 0, none⟩), .pointer (some ⟨k, 0, none⟩), .bool pre] w (HoldPost true w) := by
  subst hd
  have hR2 : (R == 0) = true := by simp; exact hR
  rcases open_ways q pre h0 with ⟨h1, h2⟩ | ⟨h1, h2⟩ | ⟨h1, h2⟩
  all_goals subst h2
  all_goals clear h0
  all_goals
    obtain ⟨c0, c1, c2, c3, c4, c5, d0, d1, d2, d3, d4, d5, e0, e1, e2, e3, e4, e5⟩ := cells18 hg hj hk (Below.refl w.heap.size w)
    have bn : Below w.heap.size w w := Below.refl _ _
    have nn : w.heap.size ≤ w.heap.size := Nat.le_refl _
    go_enter Tryd.func105, Tryd.ntmps105
    go_wp2_with (first | ((first | (go_at_call 92; refine (major_any _ _ _ _ _ _ _).mono ?_) | (go_at_call 93; refine (minor_any _ _ _ _ _ _ _).mono ?_) | (go_at_call 94; refine (patch_any _ _ _ _ _ _ _).mono ?_) | (go_at_call 95; refine (pre_any _ _ _ _ _ _ _).mono ?_)); rintro e w' ⟨rfl, hw⟩; have bn : Below w.heap.size w w' := (by rw [hw]; exact (by repeat (first | assumption | exact Below.refl _ _ | refine below_drewN ?_ _ | refine Below.drew ?_ | refine Below.alloc ?_ (by first | omega | (simp <;> omega)) _))); clear hw; have nn : w.heap.size ≤ w'.heap.size := bn.size; obtain ⟨c0, c1, c2, c3, c4, c5, d0, d1, d2, d3, d4, d5, e0, e1, e2, e3, e4, e5⟩ := cells18 hg hj hk bn) | (go_at_call 65; refine (equal_any _ _ _ _ _ _ hne (hg.below bn) (hj.below bn) (Lib.hid (compare_any _ _ x y z _ _ _ q n r p m o _ (hg.below bn) (hj.below bn) hq hp (he.below bn)))).mono ?_; rintro e w' ⟨rfl, hw⟩; rw [HR.out]; have bn : Below w.heap.size w w' := bn.trans (hw.mono bn.size); clear hw; have nn : w.heap.size ≤ w'.heap.size := bn.size; obtain ⟨c0, c1, c2, c3, c4, c5, d0, d1, d2, d3, d4, d5, e0, e1, e2, e3, e4, e5⟩ := cells18 hg hj hk bn) | (go_at_call 120; refine (errNew_any _ _).mono ?_; rintro e w' ⟨⟨t9, p9, rfl⟩, hw⟩; have bn : Below w.heap.size w w' := (by rw [hw]; exact (by repeat (first | assumption | exact Below.refl _ _ | refine below_drewN ?_ _ | refine Below.drew ?_ | refine Below.alloc ?_ (by first | omega | (simp <;> omega)) _))); clear hw; have nn : w.heap.size ≤ w'.heap.size := bn.size))
    go_ret2
    exact ⟨_, rfl, bn⟩

set_option maxRecDepth 100000 in
set_option maxHeartbeats 16000000 in
theorem eqq_0 (g j k : Nat) (x y z a b c : Int) (q n r p m o s : ByteArray) (dy md pd pre : Bool) (w : World) (hg : VerAt w g (verC x y z q n r)) (hj : VerAt w j (verC a b c p m o)) (hk : ConAt w k #[.pointer (some ⟨j, 0, none⟩), .string ⟨#[]⟩, .string s, .bool md, .bool dy, .bool pd]) (hq : q.size ≤ 2147483654) (hp : p.size ≤ 2147483654) (he : Hid (Errs w)) (R : Int) (HR : Hid (cmpI x y z q a b c p = R)) (hne : g ≠ j) (h0 : openP q pre) (hd : dy = false) (hR : R ≠ 0) :
    Calls Tryd.prog 105 #[.pointer (some ⟨g, 0, none⟩), .pointer (some ⟨k, 0, none⟩), .bool pre] w (HoldPost false w) := by
  subst hd
  have hR2 : (R == 0) = false := by simp; exact hR
  rcases open_ways q pre h0 with ⟨h1, h2⟩ | ⟨h1, h2⟩ | ⟨h1, h2⟩
  all_goals subst h2
  all_goals clear h0
  all_goals
    obtain ⟨c0, c1, c2, c3, c4, c5, d0, d1, d2, d3, d4, d5, e0, e1, e2, e3, e4, e5⟩ := cells18 hg hj hk (Below.refl w.heap.size w)
    have bn : Below w.heap.size w w := Below.refl _ _
    have nn : w.heap.size ≤ w.heap.size := Nat.le_refl _
    go_enter Tryd.func105, Tryd.ntmps105
    go_wp2_with (first | ((first | (go_at_call 92; refine (major_any _ _ _ _ _ _ _).mono ?_) | (go_at_call 93; refine (minor_any _ _ _ _ _ _ _).mono ?_) | (go_at_call 94; refine (patch_any _ _ _ _ _ _ _).mono ?_) | (go_at_call 95; refine (pre_any _ _ _ _ _ _ _).mono ?_)); rintro e w' ⟨rfl, hw⟩; have bn : Below w.heap.size w w' := (by rw [hw]; exact (by repeat (first | assumption | exact Below.refl _ _ | refine below_drewN ?_ _ | refine Below.drew ?_ | refine Below.alloc ?_ (by first | omega | (simp <;> omega)) _))); clear hw; have nn : w.heap.size ≤ w'.heap.size := bn.size; obtain ⟨c0, c1, c2, c3, c4, c5, d0, d1, d2, d3, d4, d5, e0, e1, e2, e3, e4, e5⟩ := cells18 hg hj hk bn) | (go_at_call 65; refine (equal_any _ _ _ _ _ _ hne (hg.below bn) (hj.below bn) (Lib.hid (compare_any _ _ x y z _ _ _ q n r p m o _ (hg.below bn) (hj.below bn) hq hp (he.below bn)))).mono ?_; rintro e w' ⟨rfl, hw⟩; rw [HR.out]; have bn : Below w.heap.size w w' := bn.trans (hw.mono bn.size); clear hw; have nn : w.heap.size ≤ w'.heap.size := bn.size; obtain ⟨c0, c1, c2, c3, c4, c5, d0, d1, d2, d3, d4, d5, e0, e1, e2, e3, e4, e5⟩ := cells18 hg hj hk bn) | (go_at_call 120; refine (errNew_any _ _).mono ?_; rintro e w' ⟨⟨t9, p9, rfl⟩, hw⟩; have bn : Below w.heap.size w w' := (by rw [hw]; exact (by repeat (first | assumption | exact Below.refl _ _ | refine below_drewN ?_ _ | refine Below.drew ?_ | refine Below.alloc ?_ (by first | omega | (simp <;> omega)) _))); clear hw; have nn : w.heap.size ≤ w'.heap.size := bn.size))
    go_ret2
    exact ⟨_, rfl, bn⟩

set_option maxRecDepth 100000 in
set_option maxHeartbeats 16000000 in
theorem eqq_t (g j k : Nat) (x y z a b c : Int) (q n r p m o s : ByteArray) (dy md pd pre : Bool) (w : World) (hg : VerAt w g (verC x y z q n r)) (hj : VerAt w j (verC a b c p m o)) (hk : ConAt w k #[.pointer (some ⟨j, 0, none⟩), .string ⟨#[]⟩, .string s, .bool md, .bool dy, .bool pd]) (hq : q.size ≤ 2147483654) (hp : p.size ≤ 2147483654) (he : Hid (Errs w)) (R : Int) (HR : Hid (cmpI x y z q a b c p = R)) (hne : g ≠ j) (h0 : openP q pre) (hd : dy = true) (T : Bool) (HT : Hid (tildeB pre q p x y z a b c md pd = T)) :
    Calls Tryd.prog 105 #[.pointer (some ⟨g, 0, none⟩), .pointer (some ⟨k, 0, none⟩), .bool pre] w (HoldPost T w) := by
  subst hd
  rcases open_ways q pre h0 with ⟨h1, h2⟩ | ⟨h1, h2⟩ | ⟨h1, h2⟩
  all_goals subst h2
  all_goals clear h0
  all_goals
    obtain ⟨c0, c1, c2, c3, c4, c5, d0, d1, d2, d3, d4, d5, e0, e1, e2, e3, e4, e5⟩ := cells18 hg hj hk (Below.refl w.heap.size w)
    have bn : Below w.heap.size w w := Below.refl _ _
    have nn : w.heap.size ≤ w.heap.size := Nat.le_refl _
    go_enter Tryd.func105, Tryd.ntmps105
    go_wp2_with (first | ((first | (go_at_call 92; refine (major_any _ _ _ _ _ _ _).mono ?_) | (go_at_call 93; refine (minor_any _ _ _ _ _ _ _).mono ?_) | (go_at_call 94; refine (patch_any _ _ _ _ _ _ _).mono ?_) | (go_at_call 95; refine (pre_any _ _ _ _ _ _ _).mono ?_)); rintro e w' ⟨rfl, hw⟩; have bn : Below w.heap.size w w' := (by rw [hw]; exact (by repeat (first | assumption | exact Below.refl _ _ | refine below_drewN ?_ _ | refine Below.drew ?_ | refine Below.alloc ?_ (by first | omega | (simp <;> omega)) _))); clear hw; have nn : w.heap.size ≤ w'.heap.size := bn.size; obtain ⟨c0, c1, c2, c3, c4, c5, d0, d1, d2, d3, d4, d5, e0, e1, e2, e3, e4, e5⟩ := cells18 hg hj hk bn) | (go_at_call 97; refine (tilde_any g j k x y z a b c q n r p m o s true md pd _ _ (hg.below bn) (hj.below bn) (hk.below bn) hq hp (he.below bn)).mono ?_; rintro e w' ⟨ev, rfl, hw⟩; rw [HT.out]; have bn : Below w.heap.size w w' := bn.trans (hw.mono bn.size); clear hw) | (go_at_call 120; refine (errNew_any _ _).mono ?_; rintro e w' ⟨⟨t9, p9, rfl⟩, hw⟩; have bn : Below w.heap.size w w' := (by rw [hw]; exact (by repeat (first | assumption | exact Below.refl _ _ | refine below_drewN ?_ _ | refine Below.drew ?_ | refine Below.alloc ?_ (by first | omega | (simp <;> omega)) _))); clear hw; have nn : w.heap.size ≤ w'.heap.size := bn.size))
    go_ret2
    exact ⟨_, rfl, bn⟩

/-- What = answers. -/
def equalV (dy til r0 : Bool) : Bool := bif dy then til else r0

theorem eqt_any (g j k : Nat) (x y z a b c : Int) (q n r p m o s : ByteArray) (dy md pd pre : Bool) (w : World) (hg : VerAt w g (verC x y z q n r)) (hj : VerAt w j (verC a b c p m o)) (hk : ConAt w k #[.pointer (some ⟨j, 0, none⟩), .string ⟨#[]⟩, .string s, .bool md, .bool dy, .bool pd]) (hq : q.size ≤ 2147483654) (hp : p.size ≤ 2147483654) (he : Hid (Errs w)) (hne : g ≠ j) (hsh : q.toList.isEmpty = false → pre = false → Calls Tryd.prog 105 #[.pointer (some ⟨g, 0, none⟩), .pointer (some ⟨k, 0, none⟩), .bool pre] w (HoldPost false w)) :
    Calls Tryd.prog 105 #[.pointer (some ⟨g, 0, none⟩), .pointer (some ⟨k, 0, none⟩), .bool pre] w (HoldPost (shutB q.toList.isEmpty pre (equalV dy (tildeB pre q p x y z a b c md pd) ((cmpI x y z q a b c p) == 0))) w) := by
  obtain ⟨R, HR⟩ : ∃ R, Hid (cmpI x y z q a b c p = R) := ⟨_, rfl⟩
  rw [HR.out]
  rcases open_or q pre with h0 | ⟨h1, h2⟩
  · rw [shut_open q pre _ h0]
    cases hd : dy with
    | false =>
      subst hd
      cases hr : (R == 0) with
      | true => exact eqq_1 g j k x y z a b c q n r p m o s false md pd pre w hg hj hk hq hp he R HR hne h0 rfl (by simpa using hr)
      | false => exact eqq_0 g j k x y z a b c q n r p m o s false md pd pre w hg hj hk hq hp he R HR hne h0 rfl (by simpa using hr)
    | true =>
      subst hd
      exact eqq_t g j k x y z a b c q n r p m o s true md pd pre w hg hj hk hq hp he R HR hne h0 rfl _ rfl
  · rw [shut_shut q pre _ h1 h2]
    exact hsh h1 h2

end Go.Proofs.YtdlpcfhhpjjjmaaDoor
