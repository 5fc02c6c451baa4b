/- semver.constraintLessThanEqual. -/
import Derived.Test.YtdlpcfhhpjjjmaaDoorConB
namespace Go.Proofs.YtdlpcfhhpjjjmaaDoor
open Go.RowKit
set_option linter.unusedVariables false
set_option linter.unusedSimpArgs false

set_option maxRecDepth 100000 in
set_option maxHeartbeats 16000000 in
theorem mst_d1 (g j k : Nat) (x y z a b c : Int) (q n r p m o s : ByteArray) (dy md pd pre : Bool) (w : World) (hg : VerAt w g (verC x y z q n r)) (hj : VerAt w j (verC a b c p m o)) (hk : ConAt w k #[.pointer (some ⟨j, 0, none⟩), .string ⟨#[]⟩, .string s, .bool md, .bool dy, .bool pd]) (hq : q.size ≤ 2147483654) (hp : p.size ≤ 2147483654) (he : Hid (Errs w)) (R : Int) (HR : Hid (cmpI x y z q a b c p = R)) (h0 : openP q pre) (hd : dy = false) (hR : R ≤ 0) :
    Calls Tryd.prog 109 #[.pointer (some ⟨g, 0, none⟩), .pointer (some ⟨k, 0, none⟩), .bool pre] w (HoldPost true w) := by
  subst hd
  have hR2 : (R ≤ 0) = True := by simp; exact hR
  rcases open_ways q pre h0 with ⟨h1, h2⟩ | ⟨h1, h2⟩ | ⟨h1, h2⟩
  all_goals subst h2
  all_goals clear h0
  all_goals
    obtain ⟨c0, c1, c2, c3, c4, c5, d0, d1, d2, d3, d4, d5, e0, e1, e2, e3, e4, e5⟩ := cells18 hg hj hk (Below.refl w.heap.size w)
    have bn : Below w.heap.size w w := Below.refl _ _
    have nn : w.heap.size ≤ w.heap.size := Nat.le_refl _
    go_enter Tryd.func109, Tryd.ntmps109
    go_wp2_with (first | ((first | (go_at_call 92; refine (major_any _ _ _ _ _ _ _).mono ?_) | (go_at_call 93; refine (minor_any _ _ _ _ _ _ _).mono ?_) | (go_at_call 94; refine (patch_any _ _ _ _ _ _ _).mono ?_) | (go_at_call 95; refine (pre_any _ _ _ _ _ _ _).mono ?_)); rintro e w' ⟨rfl, hw⟩; replace bn : Below w.heap.size w w' := (by rw [hw]; exact (by repeat (first | assumption | exact Below.refl _ _ | refine below_drewN ?_ _ | refine Below.drew ?_ | refine Below.alloc ?_ (by first | omega | (simp <;> omega)) _))); clear hw; replace nn : w.heap.size ≤ w'.heap.size := bn.size; clear c0 c1 c2 c3 c4 c5 d0 d1 d2 d3 d4 d5 e0 e1 e2 e3 e4 e5; obtain ⟨c0, c1, c2, c3, c4, c5, d0, d1, d2, d3, d4, d5, e0, e1, e2, e3, e4, e5⟩ := cells18 hg hj hk bn) | (go_at_call 63; refine (compare_any _ _ x y z _ _ _ q n r p m o _ (hg.below bn) (hj.below bn) hq hp (he.below bn)).mono ?_; rintro e w' ⟨rfl, hw⟩; rw [HR.out]; replace bn : Below w.heap.size w w' := bn.trans (hw.mono bn.size); clear hw; replace nn : w.heap.size ≤ w'.heap.size := bn.size; clear c0 c1 c2 c3 c4 c5 d0 d1 d2 d3 d4 d5 e0 e1 e2 e3 e4 e5; obtain ⟨c0, c1, c2, c3, c4, c5, d0, d1, d2, d3, d4, d5, e0, e1, e2, e3, e4, e5⟩ := cells18 hg hj hk bn) | (go_at_call 120; refine (errNew_any _ _).mono ?_; rintro e w' ⟨⟨t9, p9, rfl⟩, hw⟩; have bn : Below w.heap.size w w' := (by rw [hw]; exact (by repeat (first | assumption | exact Below.refl _ _ | refine below_drewN ?_ _ | refine Below.drew ?_ | refine Below.alloc ?_ (by first | omega | (simp <;> omega)) _))); clear hw; have nn : w.heap.size ≤ w'.heap.size := bn.size))
    go_ret2
    exact ⟨_, rfl, bn⟩

set_option maxRecDepth 100000 in
set_option maxHeartbeats 16000000 in
theorem mst_d0 (g j k : Nat) (x y z a b c : Int) (q n r p m o s : ByteArray) (dy md pd pre : Bool) (w : World) (hg : VerAt w g (verC x y z q n r)) (hj : VerAt w j (verC a b c p m o)) (hk : ConAt w k #[.pointer (some ⟨j, 0, none⟩), .string ⟨#[]⟩, .string s, .bool md, .bool dy, .bool pd]) (hq : q.size ≤ 2147483654) (hp : p.size ≤ 2147483654) (he : Hid (Errs w)) (R : Int) (HR : Hid (cmpI x y z q a b c p = R)) (h0 : openP q pre) (hd : dy = false) (hR : ¬ R ≤ 0) :
    Calls Tryd.prog 109 #[.pointer (some ⟨g, 0, none⟩), .pointer (some ⟨k, 0, none⟩), .bool pre] w (HoldPost false w) := by
  subst hd
  have hR2 : (R ≤ 0) = False := by simp; omega
  rcases open_ways q pre h0 with ⟨h1, h2⟩ | ⟨h1, h2⟩ | ⟨h1, h2⟩
  all_goals subst h2
  all_goals clear h0
  all_goals
    obtain ⟨c0, c1, c2, c3, c4, c5, d0, d1, d2, d3, d4, d5, e0, e1, e2, e3, e4, e5⟩ := cells18 hg hj hk (Below.refl w.heap.size w)
    have bn : Below w.heap.size w w := Below.refl _ _
    have nn : w.heap.size ≤ w.heap.size := Nat.le_refl _
    go_enter Tryd.func109, Tryd.ntmps109
    go_wp2_with (first | ((first | (go_at_call 92; refine (major_any _ _ _ _ _ _ _).mono ?_) | (go_at_call 93; refine (minor_any _ _ _ _ _ _ _).mono ?_) | (go_at_call 94; refine (patch_any _ _ _ _ _ _ _).mono ?_) | (go_at_call 95; refine (pre_any _ _ _ _ _ _ _).mono ?_)); rintro e w' ⟨rfl, hw⟩; replace bn : Below w.heap.size w w' := (by rw [hw]; exact (by repeat (first | assumption | exact Below.refl _ _ | refine below_drewN ?_ _ | refine Below.drew ?_ | refine Below.alloc ?_ (by first | omega | (simp <;> omega)) _))); clear hw; replace nn : w.heap.size ≤ w'.heap.size := bn.size; clear c0 c1 c2 c3 c4 c5 d0 d1 d2 d3 d4 d5 e0 e1 e2 e3 e4 e5; obtain ⟨c0, c1, c2, c3, c4, c5, d0, d1, d2, d3, d4, d5, e0, e1, e2, e3, e4, e5⟩ := cells18 hg hj hk bn) | (go_at_call 63; refine (compare_any _ _ x y z _ _ _ q n r p m o _ (hg.below bn) (hj.below bn) hq hp (he.below bn)).mono ?_; rintro e w' ⟨rfl, hw⟩; rw [HR.out]; replace bn : Below w.heap.size w w' := bn.trans (hw.mono bn.size); clear hw; replace nn : w.heap.size ≤ w'.heap.size := bn.size; clear c0 c1 c2 c3 c4 c5 d0 d1 d2 d3 d4 d5 e0 e1 e2 e3 e4 e5; obtain ⟨c0, c1, c2, c3, c4, c5, d0, d1, d2, d3, d4, d5, e0, e1, e2, e3, e4, e5⟩ := cells18 hg hj hk bn) | (go_at_call 120; refine (errNew_any _ _).mono ?_; rintro e w' ⟨⟨t9, p9, rfl⟩, hw⟩; have bn : Below w.heap.size w w' := (by rw [hw]; exact (by repeat (first | assumption | exact Below.refl _ _ | refine below_drewN ?_ _ | refine Below.drew ?_ | refine Below.alloc ?_ (by first | omega | (simp <;> omega)) _))); clear hw; have nn : w.heap.size ≤ w'.heap.size := bn.size))
    go_ret2
    exact ⟨_, rfl, bn⟩

set_option maxRecDepth 100000 in
set_option maxHeartbeats 16000000 in
theorem mst_gt (g j k : Nat) (x y z a b c : Int) (q n r p m o s : ByteArray) (dy md pd pre : Bool) (w : World) (hg : VerAt w g (verC x y z q n r)) (hj : VerAt w j (verC a b c p m o)) (hk : ConAt w k #[.pointer (some ⟨j, 0, none⟩), .string ⟨#[]⟩, .string s, .bool md, .bool dy, .bool pd]) (hq : q.size ≤ 2147483654) (hp : p.size ≤ 2147483654) (he : Hid (Errs w)) (R : Int) (HR : Hid (cmpI x y z q a b c p = R)) (h0 : openP q pre) (hd : dy = true) (hx : a < x) :
    Calls Tryd.prog 109 #[.pointer (some ⟨g, 0, none⟩), .pointer (some ⟨k, 0, none⟩), .bool pre] w (HoldPost false w) := by
  subst hd
  have hx2 : (a < x) = True := by simp; exact hx
  rcases open_ways q pre h0 with ⟨h1, h2⟩ | ⟨h1, h2⟩ | ⟨h1, h2⟩
  all_goals subst h2
  all_goals clear h0
  all_goals
    obtain ⟨c0, c1, c2, c3, c4, c5, d0, d1, d2, d3, d4, d5, e0, e1, e2, e3, e4, e5⟩ := cells18 hg hj hk (Below.refl w.heap.size w)
    have bn : Below w.heap.size w w := Below.refl _ _
    have nn : w.heap.size ≤ w.heap.size := Nat.le_refl _
    go_enter Tryd.func109, Tryd.ntmps109
    go_wp2_with (first | ((first | (go_at_call 92; refine (major_any _ _ _ _ _ _ _).mono ?_) | (go_at_call 93; refine (minor_any _ _ _ _ _ _ _).mono ?_) | (go_at_call 94; refine (patch_any _ _ _ _ _ _ _).mono ?_) | (go_at_call 95; refine (pre_any _ _ _ _ _ _ _).mono ?_)); rintro e w' ⟨rfl, hw⟩; replace bn : Below w.heap.size w w' := (by rw [hw]; exact (by repeat (first | assumption | exact Below.refl _ _ | refine below_drewN ?_ _ | refine Below.drew ?_ | refine Below.alloc ?_ (by first | omega | (simp <;> omega)) _))); clear hw; replace nn : w.heap.size ≤ w'.heap.size := bn.size; clear c0 c1 c2 c3 c4 c5 d0 d1 d2 d3 d4 d5 e0 e1 e2 e3 e4 e5; obtain ⟨c0, c1, c2, c3, c4, c5, d0, d1, d2, d3, d4, d5, e0, e1, e2, e3, e4, e5⟩ := cells18 hg hj hk bn) | (go_at_call 63; refine (compare_any _ _ x y z _ _ _ q n r p m o _ (hg.below bn) (hj.below bn) hq hp (he.below bn)).mono ?_; rintro e w' ⟨rfl, hw⟩; rw [HR.out]; replace bn : Below w.heap.size w w' := bn.trans (hw.mono bn.size); clear hw; replace nn : w.heap.size ≤ w'.heap.size := bn.size; clear c0 c1 c2 c3 c4 c5 d0 d1 d2 d3 d4 d5 e0 e1 e2 e3 e4 e5; obtain ⟨c0, c1, c2, c3, c4, c5, d0, d1, d2, d3, d4, d5, e0, e1, e2, e3, e4, e5⟩ := cells18 hg hj hk bn) | (go_at_call 120; refine (errNew_any _ _).mono ?_; rintro e w' ⟨⟨t9, p9, rfl⟩, hw⟩; have bn : Below w.heap.size w w' := (by rw [hw]; exact (by repeat (first | assumption | exact Below.refl _ _ | refine below_drewN ?_ _ | refine Below.drew ?_ | refine Below.alloc ?_ (by first | omega | (simp <;> omega)) _))); clear hw; have nn : w.heap.size ≤ w'.heap.size := bn.size))
    go_region_held3 (fun w' => w'.cell? ⟨g, 0, none⟩ = some (.int .u64 x) ∧ w'.cell? ⟨g, 1, none⟩ = some (.int .u64 y) ∧ w'.cell? ⟨g, 2, none⟩ = some (.int .u64 z) ∧ w'.cell? ⟨g, 3, none⟩ = some (.string q) ∧ w'.cell? ⟨g, 4, none⟩ = some (.string n) ∧ w'.cell? ⟨g, 5, none⟩ = some (.string r) ∧ w'.cell? ⟨j, 0, none⟩ = some (.int .u64 a) ∧ w'.cell? ⟨j, 1, none⟩ = some (.int .u64 b) ∧ w'.cell? ⟨j, 2, none⟩ = some (.int .u64 c) ∧ w'.cell? ⟨j, 3, none⟩ = some (.string p) ∧ w'.cell? ⟨j, 4, none⟩ = some (.string m) ∧ w'.cell? ⟨j, 5, none⟩ = some (.string o) ∧ w'.cell? ⟨k, 0, none⟩ = some (.pointer (some ⟨j, 0, none⟩)) ∧ w'.cell? ⟨k, 1, none⟩ = some (.string ⟨#[]⟩) ∧ w'.cell? ⟨k, 2, none⟩ = some (.string s) ∧ w'.cell? ⟨k, 3, none⟩ = some (.bool md) ∧ w'.cell? ⟨k, 4, none⟩ = some (.bool true) ∧ w'.cell? ⟨k, 5, none⟩ = some (.bool pd)) (first | (refine ⟨?_, ?_, ?_, ?_, ?_, ?_, ?_, ?_, ?_, ?_, ?_, ?_, ?_, ?_, ?_, ?_, ?_, ?_⟩ <;> (repeat (first | assumption | (with_reducible refine keepD ?_) | (with_reducible refine keepN ?_) | (with_reducible refine keepV ?_)))) | go_keep)
        (first | ((first | (go_at_call 92; refine (major_any _ _ _ _ _ _ _).mono ?_) | (go_at_call 93; refine (minor_any _ _ _ _ _ _ _).mono ?_) | (go_at_call 94; refine (patch_any _ _ _ _ _ _ _).mono ?_) | (go_at_call 95; refine (pre_any _ _ _ _ _ _ _).mono ?_)); rintro e w' ⟨rfl, hw⟩; replace bn : Below w.heap.size w w' := (by rw [hw]; exact (by repeat (first | assumption | exact Below.refl _ _ | refine below_drewN ?_ _ | refine Below.drew ?_ | refine Below.alloc ?_ (by first | omega | (simp <;> omega)) _))); clear hw; replace nn : w.heap.size ≤ w'.heap.size := bn.size; clear c0 c1 c2 c3 c4 c5 d0 d1 d2 d3 d4 d5 e0 e1 e2 e3 e4 e5; obtain ⟨c0, c1, c2, c3, c4, c5, d0, d1, d2, d3, d4, d5, e0, e1, e2, e3, e4, e5⟩ := cells18 hg hj hk bn))
    go_wp2_with (first | ((first | (go_at_call 92; refine (major_any _ _ _ _ _ _ _).mono ?_) | (go_at_call 93; refine (minor_any _ _ _ _ _ _ _).mono ?_) | (go_at_call 94; refine (patch_any _ _ _ _ _ _ _).mono ?_) | (go_at_call 95; refine (pre_any _ _ _ _ _ _ _).mono ?_)); rintro e w' ⟨rfl, hw⟩; replace bn : Below w.heap.size w w' := (by rw [hw]; exact (by repeat (first | assumption | exact Below.refl _ _ | refine below_drewN ?_ _ | refine Below.drew ?_ | refine Below.alloc ?_ (by first | omega | (simp <;> omega)) _))); clear hw; replace nn : w.heap.size ≤ w'.heap.size := bn.size; clear c0 c1 c2 c3 c4 c5 d0 d1 d2 d3 d4 d5 e0 e1 e2 e3 e4 e5; obtain ⟨c0, c1, c2, c3, c4, c5, d0, d1, d2, d3, d4, d5, e0, e1, e2, e3, e4, e5⟩ := cells18 hg hj hk bn) | (go_at_call 63; refine (compare_any _ _ x y z _ _ _ q n r p m o _ (hg.below bn) (hj.below bn) hq hp (he.below bn)).mono ?_; rintro e w' ⟨rfl, hw⟩; rw [HR.out]; replace bn : Below w.heap.size w w' := bn.trans (hw.mono bn.size); clear hw; replace nn : w.heap.size ≤ w'.heap.size := bn.size; clear c0 c1 c2 c3 c4 c5 d0 d1 d2 d3 d4 d5 e0 e1 e2 e3 e4 e5; obtain ⟨c0, c1, c2, c3, c4, c5, d0, d1, d2, d3, d4, d5, e0, e1, e2, e3, e4, e5⟩ := cells18 hg hj hk bn) | (go_at_call 120; refine (errNew_any _ _).mono ?_; rintro e w' ⟨⟨t9, p9, rfl⟩, hw⟩; have bn : Below w.heap.size w w' := (by rw [hw]; exact (by repeat (first | assumption | exact Below.refl _ _ | refine below_drewN ?_ _ | refine Below.drew ?_ | refine Below.alloc ?_ (by first | omega | (simp <;> omega)) _))); clear hw; have nn : w.heap.size ≤ w'.heap.size := bn.size))
    go_ret2
    exact ⟨_, rfl, bn⟩

set_option maxRecDepth 100000 in
set_option maxHeartbeats 16000000 in
theorem mst_lt (g j k : Nat) (x y z a b c : Int) (q n r p m o s : ByteArray) (dy md pd pre : Bool) (w : World) (hg : VerAt w g (verC x y z q n r)) (hj : VerAt w j (verC a b c p m o)) (hk : ConAt w k #[.pointer (some ⟨j, 0, none⟩), .string ⟨#[]⟩, .string s, .bool md, .bool dy, .bool pd]) (hq : q.size ≤ 2147483654) (hp : p.size ≤ 2147483654) (he : Hid (Errs w)) (R : Int) (HR : Hid (cmpI x y z q a b c p = R)) (h0 : openP q pre) (hd : dy = true) (hx : x < a) :
    Calls Tryd.prog 109 #[.pointer (some ⟨g, 0, none⟩), .pointer (some ⟨k, 0, none⟩), .bool pre] w (HoldPost true w) := by
  subst hd
  have hx2 : (a < x) = False := by simp; omega
  have hx3 : (x == a) = false := by simp; omega
  have hx4 : (x = a) = False := by simp; omega
  rcases open_ways q pre h0 with ⟨h1, h2⟩ | ⟨h1, h2⟩ | ⟨h1, h2⟩
  all_goals subst h2
  all_goals clear h0
  all_goals
    obtain ⟨c0, c1, c2, c3, c4, c5, d0, d1, d2, d3, d4, d5, e0, e1, e2, e3, e4, e5⟩ := cells18 hg hj hk (Below.refl w.heap.size w)
    have bn : Below w.heap.size w w := Below.refl _ _
    have nn : w.heap.size ≤ w.heap.size := Nat.le_refl _
    go_enter Tryd.func109, Tryd.ntmps109
    go_wp2_with (first | ((first | (go_at_call 92; refine (major_any _ _ _ _ _ _ _).mono ?_) | (go_at_call 93; refine (minor_any _ _ _ _ _ _ _).mono ?_) | (go_at_call 94; refine (patch_any _ _ _ _ _ _ _).mono ?_) | (go_at_call 95; refine (pre_any _ _ _ _ _ _ _).mono ?_)); rintro e w' ⟨rfl, hw⟩; replace bn : Below w.heap.size w w' := (by rw [hw]; exact (by repeat (first | assumption | exact Below.refl _ _ | refine below_drewN ?_ _ | refine Below.drew ?_ | refine Below.alloc ?_ (by first | omega | (simp <;> omega)) _))); clear hw; replace nn : w.heap.size ≤ w'.heap.size := bn.size; clear c0 c1 c2 c3 c4 c5 d0 d1 d2 d3 d4 d5 e0 e1 e2 e3 e4 e5; obtain ⟨c0, c1, c2, c3, c4, c5, d0, d1, d2, d3, d4, d5, e0, e1, e2, e3, e4, e5⟩ := cells18 hg hj hk bn) | (go_at_call 63; refine (compare_any _ _ x y z _ _ _ q n r p m o _ (hg.below bn) (hj.below bn) hq hp (he.below bn)).mono ?_; rintro e w' ⟨rfl, hw⟩; rw [HR.out]; replace bn : Below w.heap.size w w' := bn.trans (hw.mono bn.size); clear hw; replace nn : w.heap.size ≤ w'.heap.size := bn.size; clear c0 c1 c2 c3 c4 c5 d0 d1 d2 d3 d4 d5 e0 e1 e2 e3 e4 e5; obtain ⟨c0, c1, c2, c3, c4, c5, d0, d1, d2, d3, d4, d5, e0, e1, e2, e3, e4, e5⟩ := cells18 hg hj hk bn) | (go_at_call 120; refine (errNew_any _ _).mono ?_; rintro e w' ⟨⟨t9, p9, rfl⟩, hw⟩; have bn : Below w.heap.size w w' := (by rw [hw]; exact (by repeat (first | assumption | exact Below.refl _ _ | refine below_drewN ?_ _ | refine Below.drew ?_ | refine Below.alloc ?_ (by first | omega | (simp <;> omega)) _))); clear hw; have nn : w.heap.size ≤ w'.heap.size := bn.size))
    go_region_held3 (fun w' => w'.cell? ⟨g, 0, none⟩ = some (.int .u64 x) ∧ w'.cell? ⟨g, 1, none⟩ = some (.int .u64 y) ∧ w'.cell? ⟨g, 2, none⟩ = some (.int .u64 z) ∧ w'.cell? ⟨g, 3, none⟩ = some (.string q) ∧ w'.cell? ⟨g, 4, none⟩ = some (.string n) ∧ w'.cell? ⟨g, 5, none⟩ = some (.string r) ∧ w'.cell? ⟨j, 0, none⟩ = some (.int .u64 a) ∧ w'.cell? ⟨j, 1, none⟩ = some (.int .u64 b) ∧ w'.cell? ⟨j, 2, none⟩ = some (.int .u64 c) ∧ w'.cell? ⟨j, 3, none⟩ = some (.string p) ∧ w'.cell? ⟨j, 4, none⟩ = some (.string m) ∧ w'.cell? ⟨j, 5, none⟩ = some (.string o) ∧ w'.cell? ⟨k, 0, none⟩ = some (.pointer (some ⟨j, 0, none⟩)) ∧ w'.cell? ⟨k, 1, none⟩ = some (.string ⟨#[]⟩) ∧ w'.cell? ⟨k, 2, none⟩ = some (.string s) ∧ w'.cell? ⟨k, 3, none⟩ = some (.bool md) ∧ w'.cell? ⟨k, 4, none⟩ = some (.bool true) ∧ w'.cell? ⟨k, 5, none⟩ = some (.bool pd)) (first | (refine ⟨?_, ?_, ?_, ?_, ?_, ?_, ?_, ?_, ?_, ?_, ?_, ?_, ?_, ?_, ?_, ?_, ?_, ?_⟩ <;> (repeat (first | assumption | (with_reducible refine keepD ?_) | (with_reducible refine keepN ?_) | (with_reducible refine keepV ?_)))) | go_keep)
        (first | ((first | (go_at_call 92; refine (major_any _ _ _ _ _ _ _).mono ?_) | (go_at_call 93; refine (minor_any _ _ _ _ _ _ _).mono ?_) | (go_at_call 94; refine (patch_any _ _ _ _ _ _ _).mono ?_) | (go_at_call 95; refine (pre_any _ _ _ _ _ _ _).mono ?_)); rintro e w' ⟨rfl, hw⟩; replace bn : Below w.heap.size w w' := (by rw [hw]; exact (by repeat (first | assumption | exact Below.refl _ _ | refine below_drewN ?_ _ | refine Below.drew ?_ | refine Below.alloc ?_ (by first | omega | (simp <;> omega)) _))); clear hw; replace nn : w.heap.size ≤ w'.heap.size := bn.size; clear c0 c1 c2 c3 c4 c5 d0 d1 d2 d3 d4 d5 e0 e1 e2 e3 e4 e5; obtain ⟨c0, c1, c2, c3, c4, c5, d0, d1, d2, d3, d4, d5, e0, e1, e2, e3, e4, e5⟩ := cells18 hg hj hk bn))
    go_wp2_with (first | ((first | (go_at_call 92; refine (major_any _ _ _ _ _ _ _).mono ?_) | (go_at_call 93; refine (minor_any _ _ _ _ _ _ _).mono ?_) | (go_at_call 94; refine (patch_any _ _ _ _ _ _ _).mono ?_) | (go_at_call 95; refine (pre_any _ _ _ _ _ _ _).mono ?_)); rintro e w' ⟨rfl, hw⟩; replace bn : Below w.heap.size w w' := (by rw [hw]; exact (by repeat (first | assumption | exact Below.refl _ _ | refine below_drewN ?_ _ | refine Below.drew ?_ | refine Below.alloc ?_ (by first | omega | (simp <;> omega)) _))); clear hw; replace nn : w.heap.size ≤ w'.heap.size := bn.size; clear c0 c1 c2 c3 c4 c5 d0 d1 d2 d3 d4 d5 e0 e1 e2 e3 e4 e5; obtain ⟨c0, c1, c2, c3, c4, c5, d0, d1, d2, d3, d4, d5, e0, e1, e2, e3, e4, e5⟩ := cells18 hg hj hk bn) | (go_at_call 63; refine (compare_any _ _ x y z _ _ _ q n r p m o _ (hg.below bn) (hj.below bn) hq hp (he.below bn)).mono ?_; rintro e w' ⟨rfl, hw⟩; rw [HR.out]; replace bn : Below w.heap.size w w' := bn.trans (hw.mono bn.size); clear hw; replace nn : w.heap.size ≤ w'.heap.size := bn.size; clear c0 c1 c2 c3 c4 c5 d0 d1 d2 d3 d4 d5 e0 e1 e2 e3 e4 e5; obtain ⟨c0, c1, c2, c3, c4, c5, d0, d1, d2, d3, d4, d5, e0, e1, e2, e3, e4, e5⟩ := cells18 hg hj hk bn) | (go_at_call 120; refine (errNew_any _ _).mono ?_; rintro e w' ⟨⟨t9, p9, rfl⟩, hw⟩; have bn : Below w.heap.size w w' := (by rw [hw]; exact (by repeat (first | assumption | exact Below.refl _ _ | refine below_drewN ?_ _ | refine Below.drew ?_ | refine Below.alloc ?_ (by first | omega | (simp <;> omega)) _))); clear hw; have nn : w.heap.size ≤ w'.heap.size := bn.size))
    refine wp_region_held_drew (S := (fun w' => w'.cell? ⟨g, 0, none⟩ = some (.int .u64 x) ∧ w'.cell? ⟨g, 1, none⟩ = some (.int .u64 y) ∧ w'.cell? ⟨g, 2, none⟩ = some (.int .u64 z) ∧ w'.cell? ⟨g, 3, none⟩ = some (.string q) ∧ w'.cell? ⟨g, 4, none⟩ = some (.string n) ∧ w'.cell? ⟨g, 5, none⟩ = some (.string r) ∧ w'.cell? ⟨j, 0, none⟩ = some (.int .u64 a) ∧ w'.cell? ⟨j, 1, none⟩ = some (.int .u64 b) ∧ w'.cell? ⟨j, 2, none⟩ = some (.int .u64 c) ∧ w'.cell? ⟨j, 3, none⟩ = some (.string p) ∧ w'.cell? ⟨j, 4, none⟩ = some (.string m) ∧ w'.cell? ⟨j, 5, none⟩ = some (.string o) ∧ w'.cell? ⟨k, 0, none⟩ = some (.pointer (some ⟨j, 0, none⟩)) ∧ w'.cell? ⟨k, 1, none⟩ = some (.string ⟨#[]⟩) ∧ w'.cell? ⟨k, 2, none⟩ = some (.string s) ∧ w'.cell? ⟨k, 3, none⟩ = some (.bool md) ∧ w'.cell? ⟨k, 4, none⟩ = some (.bool true) ∧ w'.cell? ⟨k, 5, none⟩ = some (.bool pd))) (by kernel_rfl) ?_ (fun hHeld => ?_)
    · (refine ⟨?_, ?_, ?_, ?_, ?_, ?_, ?_, ?_, ?_, ?_, ?_, ?_, ?_, ?_, ?_, ?_, ?_, ?_⟩ <;> (repeat (first | assumption | (with_reducible refine keepD ?_) | (with_reducible refine keepN ?_) | (with_reducible refine keepV ?_))))
    refine wpAnyH_take (i := 0) (v := ?_) rfl (by kernel_rfl) (by kernel_rfl) (by kernel_rfl) (fun _ _ _ h => h) (Or.inl ⟨by rfl, ?_⟩) (by assumption) ?_
    rotate_left
    · (intro w hSw; (try dsimp only at hSw); go_split_ands; go_simp; (try with_reducible rfl))
    (try simp only [Act.put, List.getElem_toArray, List.getElem_cons_zero, List.getElem_cons_succ, List.setIfInBounds_toArray, List.set_cons_zero, List.set_cons_succ])
    refine wpAnyH_take (i := 1) (v := ?_) rfl (by kernel_rfl) (by kernel_rfl) (by kernel_rfl) (fun _ _ _ h => h) (Or.inl ⟨by rfl, ?_⟩) (by assumption) ?_
    rotate_left
    · (intro w hSw; (try dsimp only at hSw); go_split_ands; go_simp; (try with_reducible rfl))
    (try simp only [Act.put, List.getElem_toArray, List.getElem_cons_zero, List.getElem_cons_succ, List.setIfInBounds_toArray, List.set_cons_zero, List.set_cons_succ])
    refine wpAnyH_take (i := 2) (v := ?_) rfl (by kernel_rfl) (by kernel_rfl) (by kernel_rfl) (fun _ _ _ h => h) (Or.inl ⟨by rfl, ?_⟩) (by assumption) ?_
    rotate_left
    · (intro w hSw; (try dsimp only at hSw); go_split_ands; go_simp; (try with_reducible rfl))
    (try simp only [Act.put, List.getElem_toArray, List.getElem_cons_zero, List.getElem_cons_succ, List.setIfInBounds_toArray, List.set_cons_zero, List.set_cons_succ])
    refine wpAnyH_take (i := 4) (v := ?_) rfl (by kernel_rfl) (by kernel_rfl) (by kernel_rfl) (fun _ _ _ h => h) (Or.inl ⟨by rfl, ?_⟩) (by assumption) ?_
    rotate_left
    · (intro w hSw; (try dsimp only at hSw); go_split_ands; go_simp; (try with_reducible rfl))
    (try simp only [Act.put, List.getElem_toArray, List.getElem_cons_zero, List.getElem_cons_succ, List.setIfInBounds_toArray, List.set_cons_zero, List.set_cons_succ])
    refine wpAnyH_take (i := 5) (v := ?_) rfl (by kernel_rfl) (by kernel_rfl) (by kernel_rfl) (fun _ _ _ h => h) (Or.inl ⟨by rfl, ?_⟩) (by assumption) ?_
    rotate_left
    · (intro w hSw; (try dsimp only at hSw); go_split_ands; go_simp; (try with_reducible rfl))
    (try simp only [Act.put, List.getElem_toArray, List.getElem_cons_zero, List.getElem_cons_succ, List.setIfInBounds_toArray, List.set_cons_zero, List.set_cons_succ])
    refine wpAnyH_take (i := 6) (v := ?_) rfl (by kernel_rfl) (by kernel_rfl) (by kernel_rfl) (fun _ _ _ h => h) (Or.inl ⟨by rfl, ?_⟩) (by assumption) ?_
    rotate_left
    · (intro w hSw; (try dsimp only at hSw); go_split_ands; go_simp; (try with_reducible rfl))
    (try simp only [Act.put, List.getElem_toArray, List.getElem_cons_zero, List.getElem_cons_succ, List.setIfInBounds_toArray, List.set_cons_zero, List.set_cons_succ])
    refine wpAnyH_take (i := 7) (v := ?_) rfl (by kernel_rfl) (by kernel_rfl) (by kernel_rfl) (fun _ _ _ h => h) (Or.inl ⟨by rfl, ?_⟩) (by assumption) ?_
    rotate_left
    · (intro w hSw; (try dsimp only at hSw); go_split_ands; go_simp; (try with_reducible rfl))
    (try simp only [Act.put, List.getElem_toArray, List.getElem_cons_zero, List.getElem_cons_succ, List.setIfInBounds_toArray, List.set_cons_zero, List.set_cons_succ])
    refine wpAnyH_take (i := 8) (v := ?_) rfl (by kernel_rfl) (by kernel_rfl) (by kernel_rfl) (fun _ _ _ h => h) (Or.inl ⟨by rfl, ?_⟩) (by assumption) ?_
    rotate_left
    · (intro w hSw; (try dsimp only at hSw); go_split_ands; go_simp; (try with_reducible rfl))
    (try simp only [Act.put, List.getElem_toArray, List.getElem_cons_zero, List.getElem_cons_succ, List.setIfInBounds_toArray, List.set_cons_zero, List.set_cons_succ])
    refine wpAnyH_take (i := 9) (v := ?_) rfl (by kernel_rfl) (by kernel_rfl) (by kernel_rfl) (fun _ _ _ h => h) (Or.inl ⟨by rfl, ?_⟩) (by assumption) ?_
    rotate_left
    · (intro w hSw; (try dsimp only at hSw); go_split_ands; go_simp; (try with_reducible rfl))
    (try simp only [Act.put, List.getElem_toArray, List.getElem_cons_zero, List.getElem_cons_succ, List.setIfInBounds_toArray, List.set_cons_zero, List.set_cons_succ])
    refine wpAnyH_ready (rs := [3]) (by kernel_rfl) (by simp) ?_
    refine AllReadyH.cons rfl (fun K hK => ?_) AllReadyH.nil
    go_simp
    (first | ((first | (go_at_call 92; refine (major_any _ _ _ _ _ _ _).mono ?_) | (go_at_call 93; refine (minor_any _ _ _ _ _ _ _).mono ?_) | (go_at_call 94; refine (patch_any _ _ _ _ _ _ _).mono ?_) | (go_at_call 95; refine (pre_any _ _ _ _ _ _ _).mono ?_)); rintro e w' ⟨rfl, hw⟩; replace bn : Below w.heap.size w w' := (by rw [hw]; exact (by repeat (first | assumption | exact Below.refl _ _ | refine below_drewN ?_ _ | refine Below.drew ?_ | refine Below.alloc ?_ (by first | omega | (simp <;> omega)) _))); clear hw; replace nn : w.heap.size ≤ w'.heap.size := bn.size; clear c0 c1 c2 c3 c4 c5 d0 d1 d2 d3 d4 d5 e0 e1 e2 e3 e4 e5; obtain ⟨c0, c1, c2, c3, c4, c5, d0, d1, d2, d3, d4, d5, e0, e1, e2, e3, e4, e5⟩ := cells18 hg hj hk bn))
    refine hK.out _ _ ?_ (fun hHeld => ?_)
    · (refine ⟨?_, ?_, ?_, ?_, ?_, ?_, ?_, ?_, ?_, ?_, ?_, ?_, ?_, ?_, ?_, ?_, ?_, ?_⟩ <;> (repeat (first | assumption | (with_reducible refine keepD ?_) | (with_reducible refine keepN ?_) | (with_reducible refine keepV ?_))))
    clear hK K
    (try simp only [Act.put, List.getElem_toArray, List.getElem_cons_zero, List.getElem_cons_succ, List.setIfInBounds_toArray, List.set_cons_zero, List.set_cons_succ])
    refine wpAnyH_ready (rs := [10]) (by kernel_rfl) (by simp) ?_
    refine AllReadyH.cons rfl (fun K hK => ?_) AllReadyH.nil
    go_simp
    (first | ((first | (go_at_call 92; refine (major_any _ _ _ _ _ _ _).mono ?_) | (go_at_call 93; refine (minor_any _ _ _ _ _ _ _).mono ?_) | (go_at_call 94; refine (patch_any _ _ _ _ _ _ _).mono ?_) | (go_at_call 95; refine (pre_any _ _ _ _ _ _ _).mono ?_)); rintro e w' ⟨rfl, hw⟩; replace bn : Below w.heap.size w w' := (by rw [hw]; exact (by repeat (first | assumption | exact Below.refl _ _ | refine below_drewN ?_ _ | refine Below.drew ?_ | refine Below.alloc ?_ (by first | omega | (simp <;> omega)) _))); clear hw; replace nn : w.heap.size ≤ w'.heap.size := bn.size; clear c0 c1 c2 c3 c4 c5 d0 d1 d2 d3 d4 d5 e0 e1 e2 e3 e4 e5; obtain ⟨c0, c1, c2, c3, c4, c5, d0, d1, d2, d3, d4, d5, e0, e1, e2, e3, e4, e5⟩ := cells18 hg hj hk bn))
    refine hK.out _ _ ?_ (fun hHeld => ?_)
    · (refine ⟨?_, ?_, ?_, ?_, ?_, ?_, ?_, ?_, ?_, ?_, ?_, ?_, ?_, ?_, ?_, ?_, ?_, ?_⟩ <;> (repeat (first | assumption | (with_reducible refine keepD ?_) | (with_reducible refine keepN ?_) | (with_reducible refine keepV ?_))))
    clear hK K
    (try simp only [Act.put, List.getElem_toArray, List.getElem_cons_zero, List.getElem_cons_succ, List.setIfInBounds_toArray, List.set_cons_zero, List.set_cons_succ])
    refine wpAnyH_take (i := 11) (v := ?_) rfl (by kernel_rfl) (by kernel_rfl) (by kernel_rfl) (fun _ _ _ h => h) (Or.inl ⟨by rfl, ?_⟩) (by assumption) ?_
    rotate_left
    · (intro w hSw; (try dsimp only at hSw); go_split_ands; go_simp; (try with_reducible rfl))
    (try simp only [Act.put, List.getElem_toArray, List.getElem_cons_zero, List.getElem_cons_succ, List.setIfInBounds_toArray, List.set_cons_zero, List.set_cons_succ])
    refine wpAnyH_take (i := 12) (v := ?_) rfl (by kernel_rfl) (by kernel_rfl) (by kernel_rfl) (fun _ _ _ h => h) (Or.inl ⟨by rfl, ?_⟩) (by assumption) ?_
    rotate_left
    · (intro w hSw; (try dsimp only at hSw); go_split_ands; go_simp; (try with_reducible rfl))
    (try simp only [Act.put, List.getElem_toArray, List.getElem_cons_zero, List.getElem_cons_succ, List.setIfInBounds_toArray, List.set_cons_zero, List.set_cons_succ])
    refine wpAnyH_take (i := 13) (v := undef) rfl (by kernel_rfl) (by kernel_rfl) (by kernel_rfl) (fun _ _ _ h => h) (Or.inr ⟨by rfl, rfl⟩) (by assumption) ?_
    (try simp only [Act.put, List.getElem_toArray, List.getElem_cons_zero, List.getElem_cons_succ, List.setIfInBounds_toArray, List.set_cons_zero, List.set_cons_succ])
    refine wpAnyH_take (i := 14) (v := undef) rfl (by kernel_rfl) (by kernel_rfl) (by kernel_rfl) (fun _ _ _ h => h) (Or.inr ⟨by rfl, rfl⟩) (by assumption) ?_
    (try simp only [Act.put, List.getElem_toArray, List.getElem_cons_zero, List.getElem_cons_succ, List.setIfInBounds_toArray, List.set_cons_zero, List.set_cons_succ])
    refine wpAnyH_take (i := 15) (v := undef) rfl (by kernel_rfl) (by kernel_rfl) (by kernel_rfl) (fun _ _ _ h => h) (Or.inr ⟨by rfl, rfl⟩) (by assumption) ?_
    (try simp only [Act.put, List.getElem_toArray, List.getElem_cons_zero, List.getElem_cons_succ, List.setIfInBounds_toArray, List.set_cons_zero, List.set_cons_succ])
    refine wpAnyH_take (i := 16) (v := undef) rfl (by kernel_rfl) (by kernel_rfl) (by kernel_rfl) (fun _ _ _ h => h) (Or.inr ⟨by rfl, rfl⟩) (by assumption) ?_
    (try simp only [Act.put, List.getElem_toArray, List.getElem_cons_zero, List.getElem_cons_succ, List.setIfInBounds_toArray, List.set_cons_zero, List.set_cons_succ])
    refine wpAnyH_take (i := 17) (v := undef) rfl (by kernel_rfl) (by kernel_rfl) (by kernel_rfl) (fun _ _ _ h => h) (Or.inr ⟨by rfl, rfl⟩) (by assumption) ?_
    (try simp only [Act.put, List.getElem_toArray, List.getElem_cons_zero, List.getElem_cons_succ, List.setIfInBounds_toArray, List.set_cons_zero, List.set_cons_succ])
    refine wpAnyH_take (i := 18) (v := undef) rfl (by kernel_rfl) (by kernel_rfl) (by kernel_rfl) (fun _ _ _ h => h) (Or.inr ⟨by rfl, rfl⟩) (by assumption) ?_
    (try simp only [Act.put, List.getElem_toArray, List.getElem_cons_zero, List.getElem_cons_succ, List.setIfInBounds_toArray, List.set_cons_zero, List.set_cons_succ])
    refine wpAnyH_take (i := 19) (v := undef) rfl (by kernel_rfl) (by kernel_rfl) (by kernel_rfl) (fun _ _ _ h => h) (Or.inr ⟨by rfl, rfl⟩) (by assumption) ?_
    (try simp only [Act.put, List.getElem_toArray, List.getElem_cons_zero, List.getElem_cons_succ, List.setIfInBounds_toArray, List.set_cons_zero, List.set_cons_succ])
    refine wpAnyH_take (i := 20) (v := undef) rfl (by kernel_rfl) (by kernel_rfl) (by kernel_rfl) (fun _ _ _ h => h) (Or.inr ⟨by rfl, rfl⟩) (by assumption) ?_
    (try simp only [Act.put, List.getElem_toArray, List.getElem_cons_zero, List.getElem_cons_succ, List.setIfInBounds_toArray, List.set_cons_zero, List.set_cons_succ])
    refine wpAnyH_take (i := 21) (v := undef) rfl (by kernel_rfl) (by kernel_rfl) (by kernel_rfl) (fun _ _ _ h => h) (Or.inr ⟨by rfl, rfl⟩) (by assumption) ?_
    (try simp only [Act.put, List.getElem_toArray, List.getElem_cons_zero, List.getElem_cons_succ, List.setIfInBounds_toArray, List.set_cons_zero, List.set_cons_succ])
    refine wpAnyH_take (i := 22) (v := undef) rfl (by kernel_rfl) (by kernel_rfl) (by kernel_rfl) (fun _ _ _ h => h) (Or.inr ⟨by rfl, rfl⟩) (by assumption) ?_
    (try simp only [Act.put, List.getElem_toArray, List.getElem_cons_zero, List.getElem_cons_succ, List.setIfInBounds_toArray, List.set_cons_zero, List.set_cons_succ])
    refine wpAnyH_take (i := 23) (v := undef) rfl (by kernel_rfl) (by kernel_rfl) (by kernel_rfl) (fun _ _ _ h => h) (Or.inr ⟨by rfl, rfl⟩) (by assumption) ?_
    (try simp only [Act.put, List.getElem_toArray, List.getElem_cons_zero, List.getElem_cons_succ, List.setIfInBounds_toArray, List.set_cons_zero, List.set_cons_succ])
    refine wpAnyH_take (i := 24) (v := undef) rfl (by kernel_rfl) (by kernel_rfl) (by kernel_rfl) (fun _ _ _ h => h) (Or.inr ⟨by rfl, rfl⟩) (by assumption) ?_
    (try simp only [Act.put, List.getElem_toArray, List.getElem_cons_zero, List.getElem_cons_succ, List.setIfInBounds_toArray, List.set_cons_zero, List.set_cons_succ])
    refine wpAnyH_take (i := 25) (v := ?_) rfl (by kernel_rfl) (by kernel_rfl) (by kernel_rfl) (fun _ _ _ h => h) (Or.inl ⟨by rfl, ?_⟩) (by assumption) ?_
    rotate_left
    · (intro w hSw; (try dsimp only at hSw); go_split_ands; go_simp; (try with_reducible rfl))
    (try simp only [Act.put, List.getElem_toArray, List.getElem_cons_zero, List.getElem_cons_succ, List.setIfInBounds_toArray, List.set_cons_zero, List.set_cons_succ])
    refine wpAnyH_take (i := 26) (v := ?_) rfl (by kernel_rfl) (by kernel_rfl) (by kernel_rfl) (fun _ _ _ h => h) (Or.inl ⟨by rfl, ?_⟩) (by assumption) ?_
    rotate_left
    · (intro w hSw; (try dsimp only at hSw); go_split_ands; go_simp; (try with_reducible rfl))
    (try simp only [Act.put, List.getElem_toArray, List.getElem_cons_zero, List.getElem_cons_succ, List.setIfInBounds_toArray, List.set_cons_zero, List.set_cons_succ])
    refine wpAnyH_take (i := 27) (v := undef) rfl (by kernel_rfl) (by kernel_rfl) (by kernel_rfl) (fun _ _ _ h => h) (Or.inr ⟨by rfl, rfl⟩) (by assumption) ?_
    (try simp only [Act.put, List.getElem_toArray, List.getElem_cons_zero, List.getElem_cons_succ, List.setIfInBounds_toArray, List.set_cons_zero, List.set_cons_succ])
    refine wpAnyH_take (i := 28) (v := undef) rfl (by kernel_rfl) (by kernel_rfl) (by kernel_rfl) (fun _ _ _ h => h) (Or.inr ⟨by rfl, rfl⟩) (by assumption) ?_
    (try simp only [Act.put, List.getElem_toArray, List.getElem_cons_zero, List.getElem_cons_succ, List.setIfInBounds_toArray, List.set_cons_zero, List.set_cons_succ])
    refine wpAnyH_take (i := 29) (v := undef) rfl (by kernel_rfl) (by kernel_rfl) (by kernel_rfl) (fun _ _ _ h => h) (Or.inr ⟨by rfl, rfl⟩) (by assumption) ?_
    (try simp only [Act.put, List.getElem_toArray, List.getElem_cons_zero, List.getElem_cons_succ, List.setIfInBounds_toArray, List.set_cons_zero, List.set_cons_succ])
    refine wpAnyH_take (i := 30) (v := undef) rfl (by kernel_rfl) (by kernel_rfl) (by kernel_rfl) (fun _ _ _ h => h) (Or.inr ⟨by rfl, rfl⟩) (by assumption) ?_
    (try simp only [Act.put, List.getElem_toArray, List.getElem_cons_zero, List.getElem_cons_succ, List.setIfInBounds_toArray, List.set_cons_zero, List.set_cons_succ])
    refine wpAnyH_take (i := 31) (v := undef) rfl (by kernel_rfl) (by kernel_rfl) (by kernel_rfl) (fun _ _ _ h => h) (Or.inr ⟨by rfl, rfl⟩) (by assumption) ?_
    (try simp only [Act.put, List.getElem_toArray, List.getElem_cons_zero, List.getElem_cons_succ, List.setIfInBounds_toArray, List.set_cons_zero, List.set_cons_succ])
    refine wpAnyH_take (i := 32) (v := ?_) rfl (by kernel_rfl) (by kernel_rfl) (by kernel_rfl) (fun _ _ _ h => h) (Or.inl ⟨by rfl, ?_⟩) (by assumption) ?_
    rotate_left
    · (intro w hSw; (try dsimp only at hSw); go_split_ands; go_simp; (try with_reducible rfl))
    (try simp only [Act.put, List.getElem_toArray, List.getElem_cons_zero, List.getElem_cons_succ, List.setIfInBounds_toArray, List.set_cons_zero, List.set_cons_succ])
    refine wpAnyH_done (by kernel_rfl) ?_ _
    go_wp2_with (first | ((first | (go_at_call 92; refine (major_any _ _ _ _ _ _ _).mono ?_) | (go_at_call 93; refine (minor_any _ _ _ _ _ _ _).mono ?_) | (go_at_call 94; refine (patch_any _ _ _ _ _ _ _).mono ?_) | (go_at_call 95; refine (pre_any _ _ _ _ _ _ _).mono ?_)); rintro e w' ⟨rfl, hw⟩; replace bn : Below w.heap.size w w' := (by rw [hw]; exact (by repeat (first | assumption | exact Below.refl _ _ | refine below_drewN ?_ _ | refine Below.drew ?_ | refine Below.alloc ?_ (by first | omega | (simp <;> omega)) _))); clear hw; replace nn : w.heap.size ≤ w'.heap.size := bn.size; clear c0 c1 c2 c3 c4 c5 d0 d1 d2 d3 d4 d5 e0 e1 e2 e3 e4 e5; obtain ⟨c0, c1, c2, c3, c4, c5, d0, d1, d2, d3, d4, d5, e0, e1, e2, e3, e4, e5⟩ := cells18 hg hj hk bn) | (go_at_call 63; refine (compare_any _ _ x y z _ _ _ q n r p m o _ (hg.below bn) (hj.below bn) hq hp (he.below bn)).mono ?_; rintro e w' ⟨rfl, hw⟩; rw [HR.out]; replace bn : Below w.heap.size w w' := bn.trans (hw.mono bn.size); clear hw; replace nn : w.heap.size ≤ w'.heap.size := bn.size; clear c0 c1 c2 c3 c4 c5 d0 d1 d2 d3 d4 d5 e0 e1 e2 e3 e4 e5; obtain ⟨c0, c1, c2, c3, c4, c5, d0, d1, d2, d3, d4, d5, e0, e1, e2, e3, e4, e5⟩ := cells18 hg hj hk bn) | (go_at_call 120; refine (errNew_any _ _).mono ?_; rintro e w' ⟨⟨t9, p9, rfl⟩, hw⟩; have bn : Below w.heap.size w w' := (by rw [hw]; exact (by repeat (first | assumption | exact Below.refl _ _ | refine below_drewN ?_ _ | refine Below.drew ?_ | refine Below.alloc ?_ (by first | omega | (simp <;> omega)) _))); clear hw; have nn : w.heap.size ≤ w'.heap.size := bn.size))
    go_ret2
    exact ⟨_, rfl, bn⟩

set_option maxRecDepth 100000 in
set_option maxHeartbeats 16000000 in
theorem mst_le (g j k : Nat) (x y z a b c : Int) (q n r p m o s : ByteArray) (dy md pd pre : Bool) (w : World) (hg : VerAt w g (verC x y z q n r)) (hj : VerAt w j (verC a b c p m o)) (hk : ConAt w k #[.pointer (some ⟨j, 0, none⟩), .string ⟨#[]⟩, .string s, .bool md, .bool dy, .bool pd]) (hq : q.size ≤ 2147483654) (hp : p.size ≤ 2147483654) (he : Hid (Errs w)) (R : Int) (HR : Hid (cmpI x y z q a b c p = R)) (h0 : openP q pre) (hd : dy = true) (hx : x = a) (hy : y ≤ b) :
    Calls Tryd.prog 109 #[.pointer (some ⟨g, 0, none⟩), .pointer (some ⟨k, 0, none⟩), .bool pre] w (HoldPost true w) := by
  subst hd
  subst hx
  have hy2 : (b < y) = False := by simp; omega
  rcases open_ways q pre h0 with ⟨h1, h2⟩ | ⟨h1, h2⟩ | ⟨h1, h2⟩
  all_goals subst h2
  all_goals clear h0
  all_goals
    obtain ⟨c0, c1, c2, c3, c4, c5, d0, d1, d2, d3, d4, d5, e0, e1, e2, e3, e4, e5⟩ := cells18 hg hj hk (Below.refl w.heap.size w)
    have bn : Below w.heap.size w w := Below.refl _ _
    have nn : w.heap.size ≤ w.heap.size := Nat.le_refl _
    go_enter Tryd.func109, Tryd.ntmps109
    go_wp2_with (first | ((first | (go_at_call 92; refine (major_any _ _ _ _ _ _ _).mono ?_) | (go_at_call 93; refine (minor_any _ _ _ _ _ _ _).mono ?_) | (go_at_call 94; refine (patch_any _ _ _ _ _ _ _).mono ?_) | (go_at_call 95; refine (pre_any _ _ _ _ _ _ _).mono ?_)); rintro e w' ⟨rfl, hw⟩; replace bn : Below w.heap.size w w' := (by rw [hw]; exact (by repeat (first | assumption | exact Below.refl _ _ | refine below_drewN ?_ _ | refine Below.drew ?_ | refine Below.alloc ?_ (by first | omega | (simp <;> omega)) _))); clear hw; replace nn : w.heap.size ≤ w'.heap.size := bn.size; clear c0 c1 c2 c3 c4 c5 d0 d1 d2 d3 d4 d5 e0 e1 e2 e3 e4 e5; obtain ⟨c0, c1, c2, c3, c4, c5, d0, d1, d2, d3, d4, d5, e0, e1, e2, e3, e4, e5⟩ := cells18 hg hj hk bn) | (go_at_call 63; refine (compare_any _ _ x y z _ _ _ q n r p m o _ (hg.below bn) (hj.below bn) hq hp (he.below bn)).mono ?_; rintro e w' ⟨rfl, hw⟩; rw [HR.out]; replace bn : Below w.heap.size w w' := bn.trans (hw.mono bn.size); clear hw; replace nn : w.heap.size ≤ w'.heap.size := bn.size; clear c0 c1 c2 c3 c4 c5 d0 d1 d2 d3 d4 d5 e0 e1 e2 e3 e4 e5; obtain ⟨c0, c1, c2, c3, c4, c5, d0, d1, d2, d3, d4, d5, e0, e1, e2, e3, e4, e5⟩ := cells18 hg hj hk bn) | (go_at_call 120; refine (errNew_any _ _).mono ?_; rintro e w' ⟨⟨t9, p9, rfl⟩, hw⟩; have bn : Below w.heap.size w w' := (by rw [hw]; exact (by repeat (first | assumption | exact Below.refl _ _ | refine below_drewN ?_ _ | refine Below.drew ?_ | refine Below.alloc ?_ (by first | omega | (simp <;> omega)) _))); clear hw; have nn : w.heap.size ≤ w'.heap.size := bn.size))
    go_region_held3 (fun w' => w'.cell? ⟨g, 0, none⟩ = some (.int .u64 x) ∧ w'.cell? ⟨g, 1, none⟩ = some (.int .u64 y) ∧ w'.cell? ⟨g, 2, none⟩ = some (.int .u64 z) ∧ w'.cell? ⟨g, 3, none⟩ = some (.string q) ∧ w'.cell? ⟨g, 4, none⟩ = some (.string n) ∧ w'.cell? ⟨g, 5, none⟩ = some (.string r) ∧ w'.cell? ⟨j, 0, none⟩ = some (.int .u64 x) ∧ w'.cell? ⟨j, 1, none⟩ = some (.int .u64 b) ∧ w'.cell? ⟨j, 2, none⟩ = some (.int .u64 c) ∧ w'.cell? ⟨j, 3, none⟩ = some (.string p) ∧ w'.cell? ⟨j, 4, none⟩ = some (.string m) ∧ w'.cell? ⟨j, 5, none⟩ = some (.string o) ∧ w'.cell? ⟨k, 0, none⟩ = some (.pointer (some ⟨j, 0, none⟩)) ∧ w'.cell? ⟨k, 1, none⟩ = some (.string ⟨#[]⟩) ∧ w'.cell? ⟨k, 2, none⟩ = some (.string s) ∧ w'.cell? ⟨k, 3, none⟩ = some (.bool md) ∧ w'.cell? ⟨k, 4, none⟩ = some (.bool true) ∧ w'.cell? ⟨k, 5, none⟩ = some (.bool pd)) (first | (refine ⟨?_, ?_, ?_, ?_, ?_, ?_, ?_, ?_, ?_, ?_, ?_, ?_, ?_, ?_, ?_, ?_, ?_, ?_⟩ <;> (repeat (first | assumption | (with_reducible refine keepD ?_) | (with_reducible refine keepN ?_) | (with_reducible refine keepV ?_)))) | go_keep)
        (first | ((first | (go_at_call 92; refine (major_any _ _ _ _ _ _ _).mono ?_) | (go_at_call 93; refine (minor_any _ _ _ _ _ _ _).mono ?_) | (go_at_call 94; refine (patch_any _ _ _ _ _ _ _).mono ?_) | (go_at_call 95; refine (pre_any _ _ _ _ _ _ _).mono ?_)); rintro e w' ⟨rfl, hw⟩; replace bn : Below w.heap.size w w' := (by rw [hw]; exact (by repeat (first | assumption | exact Below.refl _ _ | refine below_drewN ?_ _ | refine Below.drew ?_ | refine Below.alloc ?_ (by first | omega | (simp <;> omega)) _))); clear hw; replace nn : w.heap.size ≤ w'.heap.size := bn.size; clear c0 c1 c2 c3 c4 c5 d0 d1 d2 d3 d4 d5 e0 e1 e2 e3 e4 e5; obtain ⟨c0, c1, c2, c3, c4, c5, d0, d1, d2, d3, d4, d5, e0, e1, e2, e3, e4, e5⟩ := cells18 hg hj hk bn))
    go_wp2_with (first | ((first | (go_at_call 92; refine (major_any _ _ _ _ _ _ _).mono ?_) | (go_at_call 93; refine (minor_any _ _ _ _ _ _ _).mono ?_) | (go_at_call 94; refine (patch_any _ _ _ _ _ _ _).mono ?_) | (go_at_call 95; refine (pre_any _ _ _ _ _ _ _).mono ?_)); rintro e w' ⟨rfl, hw⟩; replace bn : Below w.heap.size w w' := (by rw [hw]; exact (by repeat (first | assumption | exact Below.refl _ _ | refine below_drewN ?_ _ | refine Below.drew ?_ | refine Below.alloc ?_ (by first | omega | (simp <;> omega)) _))); clear hw; replace nn : w.heap.size ≤ w'.heap.size := bn.size; clear c0 c1 c2 c3 c4 c5 d0 d1 d2 d3 d4 d5 e0 e1 e2 e3 e4 e5; obtain ⟨c0, c1, c2, c3, c4, c5, d0, d1, d2, d3, d4, d5, e0, e1, e2, e3, e4, e5⟩ := cells18 hg hj hk bn) | (go_at_call 63; refine (compare_any _ _ x y z _ _ _ q n r p m o _ (hg.below bn) (hj.below bn) hq hp (he.below bn)).mono ?_; rintro e w' ⟨rfl, hw⟩; rw [HR.out]; replace bn : Below w.heap.size w w' := bn.trans (hw.mono bn.size); clear hw; replace nn : w.heap.size ≤ w'.heap.size := bn.size; clear c0 c1 c2 c3 c4 c5 d0 d1 d2 d3 d4 d5 e0 e1 e2 e3 e4 e5; obtain ⟨c0, c1, c2, c3, c4, c5, d0, d1, d2, d3, d4, d5, e0, e1, e2, e3, e4, e5⟩ := cells18 hg hj hk bn) | (go_at_call 120; refine (errNew_any _ _).mono ?_; rintro e w' ⟨⟨t9, p9, rfl⟩, hw⟩; have bn : Below w.heap.size w w' := (by rw [hw]; exact (by repeat (first | assumption | exact Below.refl _ _ | refine below_drewN ?_ _ | refine Below.drew ?_ | refine Below.alloc ?_ (by first | omega | (simp <;> omega)) _))); clear hw; have nn : w.heap.size ≤ w'.heap.size := bn.size))
    refine wp_region_held_drew (S := (fun w' => w'.cell? ⟨g, 0, none⟩ = some (.int .u64 x) ∧ w'.cell? ⟨g, 1, none⟩ = some (.int .u64 y) ∧ w'.cell? ⟨g, 2, none⟩ = some (.int .u64 z) ∧ w'.cell? ⟨g, 3, none⟩ = some (.string q) ∧ w'.cell? ⟨g, 4, none⟩ = some (.string n) ∧ w'.cell? ⟨g, 5, none⟩ = some (.string r) ∧ w'.cell? ⟨j, 0, none⟩ = some (.int .u64 x) ∧ w'.cell? ⟨j, 1, none⟩ = some (.int .u64 b) ∧ w'.cell? ⟨j, 2, none⟩ = some (.int .u64 c) ∧ w'.cell? ⟨j, 3, none⟩ = some (.string p) ∧ w'.cell? ⟨j, 4, none⟩ = some (.string m) ∧ w'.cell? ⟨j, 5, none⟩ = some (.string o) ∧ w'.cell? ⟨k, 0, none⟩ = some (.pointer (some ⟨j, 0, none⟩)) ∧ w'.cell? ⟨k, 1, none⟩ = some (.string ⟨#[]⟩) ∧ w'.cell? ⟨k, 2, none⟩ = some (.string s) ∧ w'.cell? ⟨k, 3, none⟩ = some (.bool md) ∧ w'.cell? ⟨k, 4, none⟩ = some (.bool true) ∧ w'.cell? ⟨k, 5, none⟩ = some (.bool pd))) (by kernel_rfl) ?_ (fun hHeld => ?_)
    · (refine ⟨?_, ?_, ?_, ?_, ?_, ?_, ?_, ?_, ?_, ?_, ?_, ?_, ?_, ?_, ?_, ?_, ?_, ?_⟩ <;> (repeat (first | assumption | (with_reducible refine keepD ?_) | (with_reducible refine keepN ?_) | (with_reducible refine keepV ?_))))
    refine wpAnyH_take (i := 0) (v := ?_) rfl (by kernel_rfl) (by kernel_rfl) (by kernel_rfl) (fun _ _ _ h => h) (Or.inl ⟨by rfl, ?_⟩) (by assumption) ?_
    rotate_left
    · (intro w hSw; (try dsimp only at hSw); go_split_ands; go_simp; (try with_reducible rfl))
    (try simp only [Act.put, List.getElem_toArray, List.getElem_cons_zero, List.getElem_cons_succ, List.setIfInBounds_toArray, List.set_cons_zero, List.set_cons_succ])
    refine wpAnyH_take (i := 1) (v := ?_) rfl (by kernel_rfl) (by kernel_rfl) (by kernel_rfl) (fun _ _ _ h => h) (Or.inl ⟨by rfl, ?_⟩) (by assumption) ?_
    rotate_left
    · (intro w hSw; (try dsimp only at hSw); go_split_ands; go_simp; (try with_reducible rfl))
    (try simp only [Act.put, List.getElem_toArray, List.getElem_cons_zero, List.getElem_cons_succ, List.setIfInBounds_toArray, List.set_cons_zero, List.set_cons_succ])
    refine wpAnyH_take (i := 2) (v := ?_) rfl (by kernel_rfl) (by kernel_rfl) (by kernel_rfl) (fun _ _ _ h => h) (Or.inl ⟨by rfl, ?_⟩) (by assumption) ?_
    rotate_left
    · (intro w hSw; (try dsimp only at hSw); go_split_ands; go_simp; (try with_reducible rfl))
    (try simp only [Act.put, List.getElem_toArray, List.getElem_cons_zero, List.getElem_cons_succ, List.setIfInBounds_toArray, List.set_cons_zero, List.set_cons_succ])
    refine wpAnyH_take (i := 4) (v := ?_) rfl (by kernel_rfl) (by kernel_rfl) (by kernel_rfl) (fun _ _ _ h => h) (Or.inl ⟨by rfl, ?_⟩) (by assumption) ?_
    rotate_left
    · (intro w hSw; (try dsimp only at hSw); go_split_ands; go_simp; (try with_reducible rfl))
    (try simp only [Act.put, List.getElem_toArray, List.getElem_cons_zero, List.getElem_cons_succ, List.setIfInBounds_toArray, List.set_cons_zero, List.set_cons_succ])
    refine wpAnyH_take (i := 5) (v := ?_) rfl (by kernel_rfl) (by kernel_rfl) (by kernel_rfl) (fun _ _ _ h => h) (Or.inl ⟨by rfl, ?_⟩) (by assumption) ?_
    rotate_left
    · (intro w hSw; (try dsimp only at hSw); go_split_ands; go_simp; (try with_reducible rfl))
    (try simp only [Act.put, List.getElem_toArray, List.getElem_cons_zero, List.getElem_cons_succ, List.setIfInBounds_toArray, List.set_cons_zero, List.set_cons_succ])
    refine wpAnyH_take (i := 6) (v := ?_) rfl (by kernel_rfl) (by kernel_rfl) (by kernel_rfl) (fun _ _ _ h => h) (Or.inl ⟨by rfl, ?_⟩) (by assumption) ?_
    rotate_left
    · (intro w hSw; (try dsimp only at hSw); go_split_ands; go_simp; (try with_reducible rfl))
    (try simp only [Act.put, List.getElem_toArray, List.getElem_cons_zero, List.getElem_cons_succ, List.setIfInBounds_toArray, List.set_cons_zero, List.set_cons_succ])
    refine wpAnyH_take (i := 7) (v := ?_) rfl (by kernel_rfl) (by kernel_rfl) (by kernel_rfl) (fun _ _ _ h => h) (Or.inl ⟨by rfl, ?_⟩) (by assumption) ?_
    rotate_left
    · (intro w hSw; (try dsimp only at hSw); go_split_ands; go_simp; (try with_reducible rfl))
    (try simp only [Act.put, List.getElem_toArray, List.getElem_cons_zero, List.getElem_cons_succ, List.setIfInBounds_toArray, List.set_cons_zero, List.set_cons_succ])
    refine wpAnyH_take (i := 8) (v := ?_) rfl (by kernel_rfl) (by kernel_rfl) (by kernel_rfl) (fun _ _ _ h => h) (Or.inl ⟨by rfl, ?_⟩) (by assumption) ?_
    rotate_left
    · (intro w hSw; (try dsimp only at hSw); go_split_ands; go_simp; (try with_reducible rfl))
    (try simp only [Act.put, List.getElem_toArray, List.getElem_cons_zero, List.getElem_cons_succ, List.setIfInBounds_toArray, List.set_cons_zero, List.set_cons_succ])
    refine wpAnyH_take (i := 9) (v := ?_) rfl (by kernel_rfl) (by kernel_rfl) (by kernel_rfl) (fun _ _ _ h => h) (Or.inl ⟨by rfl, ?_⟩) (by assumption) ?_
    rotate_left
    · (intro w hSw; (try dsimp only at hSw); go_split_ands; go_simp; (try with_reducible rfl))
    (try simp only [Act.put, List.getElem_toArray, List.getElem_cons_zero, List.getElem_cons_succ, List.setIfInBounds_toArray, List.set_cons_zero, List.set_cons_succ])
    refine wpAnyH_ready (rs := [3]) (by kernel_rfl) (by simp) ?_
    refine AllReadyH.cons rfl (fun K hK => ?_) AllReadyH.nil
    go_simp
    (first | ((first | (go_at_call 92; refine (major_any _ _ _ _ _ _ _).mono ?_) | (go_at_call 93; refine (minor_any _ _ _ _ _ _ _).mono ?_) | (go_at_call 94; refine (patch_any _ _ _ _ _ _ _).mono ?_) | (go_at_call 95; refine (pre_any _ _ _ _ _ _ _).mono ?_)); rintro e w' ⟨rfl, hw⟩; replace bn : Below w.heap.size w w' := (by rw [hw]; exact (by repeat (first | assumption | exact Below.refl _ _ | refine below_drewN ?_ _ | refine Below.drew ?_ | refine Below.alloc ?_ (by first | omega | (simp <;> omega)) _))); clear hw; replace nn : w.heap.size ≤ w'.heap.size := bn.size; clear c0 c1 c2 c3 c4 c5 d0 d1 d2 d3 d4 d5 e0 e1 e2 e3 e4 e5; obtain ⟨c0, c1, c2, c3, c4, c5, d0, d1, d2, d3, d4, d5, e0, e1, e2, e3, e4, e5⟩ := cells18 hg hj hk bn))
    refine hK.out _ _ ?_ (fun hHeld => ?_)
    · (refine ⟨?_, ?_, ?_, ?_, ?_, ?_, ?_, ?_, ?_, ?_, ?_, ?_, ?_, ?_, ?_, ?_, ?_, ?_⟩ <;> (repeat (first | assumption | (with_reducible refine keepD ?_) | (with_reducible refine keepN ?_) | (with_reducible refine keepV ?_))))
    clear hK K
    (try simp only [Act.put, List.getElem_toArray, List.getElem_cons_zero, List.getElem_cons_succ, List.setIfInBounds_toArray, List.set_cons_zero, List.set_cons_succ])
    refine wpAnyH_ready (rs := [10]) (by kernel_rfl) (by simp) ?_
    refine AllReadyH.cons rfl (fun K hK => ?_) AllReadyH.nil
    go_simp
    (first | ((first | (go_at_call 92; refine (major_any _ _ _ _ _ _ _).mono ?_) | (go_at_call 93; refine (minor_any _ _ _ _ _ _ _).mono ?_) | (go_at_call 94; refine (patch_any _ _ _ _ _ _ _).mono ?_) | (go_at_call 95; refine (pre_any _ _ _ _ _ _ _).mono ?_)); rintro e w' ⟨rfl, hw⟩; replace bn : Below w.heap.size w w' := (by rw [hw]; exact (by repeat (first | assumption | exact Below.refl _ _ | refine below_drewN ?_ _ | refine Below.drew ?_ | refine Below.alloc ?_ (by first | omega | (simp <;> omega)) _))); clear hw; replace nn : w.heap.size ≤ w'.heap.size := bn.size; clear c0 c1 c2 c3 c4 c5 d0 d1 d2 d3 d4 d5 e0 e1 e2 e3 e4 e5; obtain ⟨c0, c1, c2, c3, c4, c5, d0, d1, d2, d3, d4, d5, e0, e1, e2, e3, e4, e5⟩ := cells18 hg hj hk bn))
    refine hK.out _ _ ?_ (fun hHeld => ?_)
    · (refine ⟨?_, ?_, ?_, ?_, ?_, ?_, ?_, ?_, ?_, ?_, ?_, ?_, ?_, ?_, ?_, ?_, ?_, ?_⟩ <;> (repeat (first | assumption | (with_reducible refine keepD ?_) | (with_reducible refine keepN ?_) | (with_reducible refine keepV ?_))))
    clear hK K
    (try simp only [Act.put, List.getElem_toArray, List.getElem_cons_zero, List.getElem_cons_succ, List.setIfInBounds_toArray, List.set_cons_zero, List.set_cons_succ])
    refine wpAnyH_take (i := 11) (v := ?_) rfl (by kernel_rfl) (by kernel_rfl) (by kernel_rfl) (fun _ _ _ h => h) (Or.inl ⟨by rfl, ?_⟩) (by assumption) ?_
    rotate_left
    · (intro w hSw; (try dsimp only at hSw); go_split_ands; go_simp; (try with_reducible rfl))
    (try simp only [Act.put, List.getElem_toArray, List.getElem_cons_zero, List.getElem_cons_succ, List.setIfInBounds_toArray, List.set_cons_zero, List.set_cons_succ])
    refine wpAnyH_take (i := 12) (v := ?_) rfl (by kernel_rfl) (by kernel_rfl) (by kernel_rfl) (fun _ _ _ h => h) (Or.inl ⟨by rfl, ?_⟩) (by assumption) ?_
    rotate_left
    · (intro w hSw; (try dsimp only at hSw); go_split_ands; go_simp; (try with_reducible rfl))
    (try simp only [Act.put, List.getElem_toArray, List.getElem_cons_zero, List.getElem_cons_succ, List.setIfInBounds_toArray, List.set_cons_zero, List.set_cons_succ])
    refine wpAnyH_take (i := 13) (v := ?_) rfl (by kernel_rfl) (by kernel_rfl) (by kernel_rfl) (fun _ _ _ h => h) (Or.inl ⟨by rfl, ?_⟩) (by assumption) ?_
    rotate_left
    · (intro w hSw; (try dsimp only at hSw); go_split_ands; go_simp; (try with_reducible rfl))
    (try simp only [Act.put, List.getElem_toArray, List.getElem_cons_zero, List.getElem_cons_succ, List.setIfInBounds_toArray, List.set_cons_zero, List.set_cons_succ])
    refine wpAnyH_take (i := 14) (v := ?_) rfl (by kernel_rfl) (by kernel_rfl) (by kernel_rfl) (fun _ _ _ h => h) (Or.inl ⟨by rfl, ?_⟩) (by assumption) ?_
    rotate_left
    · (intro w hSw; (try dsimp only at hSw); go_split_ands; go_simp; (try with_reducible rfl))
    (try simp only [Act.put, List.getElem_toArray, List.getElem_cons_zero, List.getElem_cons_succ, List.setIfInBounds_toArray, List.set_cons_zero, List.set_cons_succ])
    refine wpAnyH_take (i := 15) (v := ?_) rfl (by kernel_rfl) (by kernel_rfl) (by kernel_rfl) (fun _ _ _ h => h) (Or.inl ⟨by rfl, ?_⟩) (by assumption) ?_
    rotate_left
    · (intro w hSw; (try dsimp only at hSw); go_split_ands; go_simp; (try with_reducible rfl))
    (try simp only [Act.put, List.getElem_toArray, List.getElem_cons_zero, List.getElem_cons_succ, List.setIfInBounds_toArray, List.set_cons_zero, List.set_cons_succ])
    refine wpAnyH_take (i := 17) (v := ?_) rfl (by kernel_rfl) (by kernel_rfl) (by kernel_rfl) (fun _ _ _ h => h) (Or.inl ⟨by rfl, ?_⟩) (by assumption) ?_
    rotate_left
    · (intro w hSw; (try dsimp only at hSw); go_split_ands; go_simp; (try with_reducible rfl))
    (try simp only [Act.put, List.getElem_toArray, List.getElem_cons_zero, List.getElem_cons_succ, List.setIfInBounds_toArray, List.set_cons_zero, List.set_cons_succ])
    refine wpAnyH_take (i := 18) (v := ?_) rfl (by kernel_rfl) (by kernel_rfl) (by kernel_rfl) (fun _ _ _ h => h) (Or.inl ⟨by rfl, ?_⟩) (by assumption) ?_
    rotate_left
    · (intro w hSw; (try dsimp only at hSw); go_split_ands; go_simp; (try with_reducible rfl))
    (try simp only [Act.put, List.getElem_toArray, List.getElem_cons_zero, List.getElem_cons_succ, List.setIfInBounds_toArray, List.set_cons_zero, List.set_cons_succ])
    refine wpAnyH_take (i := 19) (v := ?_) rfl (by kernel_rfl) (by kernel_rfl) (by kernel_rfl) (fun _ _ _ h => h) (Or.inl ⟨by rfl, ?_⟩) (by assumption) ?_
    rotate_left
    · (intro w hSw; (try dsimp only at hSw); go_split_ands; go_simp; (try with_reducible rfl))
    (try simp only [Act.put, List.getElem_toArray, List.getElem_cons_zero, List.getElem_cons_succ, List.setIfInBounds_toArray, List.set_cons_zero, List.set_cons_succ])
    refine wpAnyH_take (i := 20) (v := ?_) rfl (by kernel_rfl) (by kernel_rfl) (by kernel_rfl) (fun _ _ _ h => h) (Or.inl ⟨by rfl, ?_⟩) (by assumption) ?_
    rotate_left
    · (intro w hSw; (try dsimp only at hSw); go_split_ands; go_simp; (try with_reducible rfl))
    (try simp only [Act.put, List.getElem_toArray, List.getElem_cons_zero, List.getElem_cons_succ, List.setIfInBounds_toArray, List.set_cons_zero, List.set_cons_succ])
    refine wpAnyH_take (i := 21) (v := ?_) rfl (by kernel_rfl) (by kernel_rfl) (by kernel_rfl) (fun _ _ _ h => h) (Or.inl ⟨by rfl, ?_⟩) (by assumption) ?_
    rotate_left
    · (intro w hSw; (try dsimp only at hSw); go_split_ands; go_simp; (try with_reducible rfl))
    (try simp only [Act.put, List.getElem_toArray, List.getElem_cons_zero, List.getElem_cons_succ, List.setIfInBounds_toArray, List.set_cons_zero, List.set_cons_succ])
    refine wpAnyH_take (i := 22) (v := ?_) rfl (by kernel_rfl) (by kernel_rfl) (by kernel_rfl) (fun _ _ _ h => h) (Or.inl ⟨by rfl, ?_⟩) (by assumption) ?_
    rotate_left
    · (intro w hSw; (try dsimp only at hSw); go_split_ands; go_simp; (try with_reducible rfl))
    (try simp only [Act.put, List.getElem_toArray, List.getElem_cons_zero, List.getElem_cons_succ, List.setIfInBounds_toArray, List.set_cons_zero, List.set_cons_succ])
    refine wpAnyH_ready (rs := [16]) (by kernel_rfl) (by simp) ?_
    refine AllReadyH.cons rfl (fun K hK => ?_) AllReadyH.nil
    go_simp
    (first | ((first | (go_at_call 92; refine (major_any _ _ _ _ _ _ _).mono ?_) | (go_at_call 93; refine (minor_any _ _ _ _ _ _ _).mono ?_) | (go_at_call 94; refine (patch_any _ _ _ _ _ _ _).mono ?_) | (go_at_call 95; refine (pre_any _ _ _ _ _ _ _).mono ?_)); rintro e w' ⟨rfl, hw⟩; replace bn : Below w.heap.size w w' := (by rw [hw]; exact (by repeat (first | assumption | exact Below.refl _ _ | refine below_drewN ?_ _ | refine Below.drew ?_ | refine Below.alloc ?_ (by first | omega | (simp <;> omega)) _))); clear hw; replace nn : w.heap.size ≤ w'.heap.size := bn.size; clear c0 c1 c2 c3 c4 c5 d0 d1 d2 d3 d4 d5 e0 e1 e2 e3 e4 e5; obtain ⟨c0, c1, c2, c3, c4, c5, d0, d1, d2, d3, d4, d5, e0, e1, e2, e3, e4, e5⟩ := cells18 hg hj hk bn))
    refine hK.out _ _ ?_ (fun hHeld => ?_)
    · (refine ⟨?_, ?_, ?_, ?_, ?_, ?_, ?_, ?_, ?_, ?_, ?_, ?_, ?_, ?_, ?_, ?_, ?_, ?_⟩ <;> (repeat (first | assumption | (with_reducible refine keepD ?_) | (with_reducible refine keepN ?_) | (with_reducible refine keepV ?_))))
    clear hK K
    (try simp only [Act.put, List.getElem_toArray, List.getElem_cons_zero, List.getElem_cons_succ, List.setIfInBounds_toArray, List.set_cons_zero, List.set_cons_succ])
    refine wpAnyH_ready (rs := [23]) (by kernel_rfl) (by simp) ?_
    refine AllReadyH.cons rfl (fun K hK => ?_) AllReadyH.nil
    go_simp
    (first | ((first | (go_at_call 92; refine (major_any _ _ _ _ _ _ _).mono ?_) | (go_at_call 93; refine (minor_any _ _ _ _ _ _ _).mono ?_) | (go_at_call 94; refine (patch_any _ _ _ _ _ _ _).mono ?_) | (go_at_call 95; refine (pre_any _ _ _ _ _ _ _).mono ?_)); rintro e w' ⟨rfl, hw⟩; replace bn : Below w.heap.size w w' := (by rw [hw]; exact (by repeat (first | assumption | exact Below.refl _ _ | refine below_drewN ?_ _ | refine Below.drew ?_ | refine Below.alloc ?_ (by first | omega | (simp <;> omega)) _))); clear hw; replace nn : w.heap.size ≤ w'.heap.size := bn.size; clear c0 c1 c2 c3 c4 c5 d0 d1 d2 d3 d4 d5 e0 e1 e2 e3 e4 e5; obtain ⟨c0, c1, c2, c3, c4, c5, d0, d1, d2, d3, d4, d5, e0, e1, e2, e3, e4, e5⟩ := cells18 hg hj hk bn))
    refine hK.out _ _ ?_ (fun hHeld => ?_)
    · (refine ⟨?_, ?_, ?_, ?_, ?_, ?_, ?_, ?_, ?_, ?_, ?_, ?_, ?_, ?_, ?_, ?_, ?_, ?_⟩ <;> (repeat (first | assumption | (with_reducible refine keepD ?_) | (with_reducible refine keepN ?_) | (with_reducible refine keepV ?_))))
    clear hK K
    (try simp only [Act.put, List.getElem_toArray, List.getElem_cons_zero, List.getElem_cons_succ, List.setIfInBounds_toArray, List.set_cons_zero, List.set_cons_succ])
    refine wpAnyH_take (i := 24) (v := ?_) rfl (by kernel_rfl) (by kernel_rfl) (by kernel_rfl) (fun _ _ _ h => h) (Or.inl ⟨by rfl, ?_⟩) (by assumption) ?_
    rotate_left
    · (intro w hSw; (try dsimp only at hSw); go_split_ands; go_simp; (try with_reducible rfl))
    (try simp only [Act.put, List.getElem_toArray, List.getElem_cons_zero, List.getElem_cons_succ, List.setIfInBounds_toArray, List.set_cons_zero, List.set_cons_succ])
    refine wpAnyH_take (i := 25) (v := ?_) rfl (by kernel_rfl) (by kernel_rfl) (by kernel_rfl) (fun _ _ _ h => h) (Or.inl ⟨by rfl, ?_⟩) (by assumption) ?_
    rotate_left
    · (intro w hSw; (try dsimp only at hSw); go_split_ands; go_simp; (try with_reducible rfl))
    (try simp only [Act.put, List.getElem_toArray, List.getElem_cons_zero, List.getElem_cons_succ, List.setIfInBounds_toArray, List.set_cons_zero, List.set_cons_succ])
    refine wpAnyH_take (i := 26) (v := ?_) rfl (by kernel_rfl) (by kernel_rfl) (by kernel_rfl) (fun _ _ _ h => h) (Or.inl ⟨by rfl, ?_⟩) (by assumption) ?_
    rotate_left
    · (intro w hSw; (try dsimp only at hSw); go_split_ands; go_simp; (try with_reducible rfl))
    (try simp only [Act.put, List.getElem_toArray, List.getElem_cons_zero, List.getElem_cons_succ, List.setIfInBounds_toArray, List.set_cons_zero, List.set_cons_succ])
    refine wpAnyH_take (i := 27) (v := undef) rfl (by kernel_rfl) (by kernel_rfl) (by kernel_rfl) (fun _ _ _ h => h) (Or.inr ⟨by rfl, rfl⟩) (by assumption) ?_
    (try simp only [Act.put, List.getElem_toArray, List.getElem_cons_zero, List.getElem_cons_succ, List.setIfInBounds_toArray, List.set_cons_zero, List.set_cons_succ])
    refine wpAnyH_take (i := 28) (v := undef) rfl (by kernel_rfl) (by kernel_rfl) (by kernel_rfl) (fun _ _ _ h => h) (Or.inr ⟨by rfl, rfl⟩) (by assumption) ?_
    (try simp only [Act.put, List.getElem_toArray, List.getElem_cons_zero, List.getElem_cons_succ, List.setIfInBounds_toArray, List.set_cons_zero, List.set_cons_succ])
    refine wpAnyH_take (i := 29) (v := undef) rfl (by kernel_rfl) (by kernel_rfl) (by kernel_rfl) (fun _ _ _ h => h) (Or.inr ⟨by rfl, rfl⟩) (by assumption) ?_
    (try simp only [Act.put, List.getElem_toArray, List.getElem_cons_zero, List.getElem_cons_succ, List.setIfInBounds_toArray, List.set_cons_zero, List.set_cons_succ])
    refine wpAnyH_take (i := 30) (v := undef) rfl (by kernel_rfl) (by kernel_rfl) (by kernel_rfl) (fun _ _ _ h => h) (Or.inr ⟨by rfl, rfl⟩) (by assumption) ?_
    (try simp only [Act.put, List.getElem_toArray, List.getElem_cons_zero, List.getElem_cons_succ, List.setIfInBounds_toArray, List.set_cons_zero, List.set_cons_succ])
    refine wpAnyH_take (i := 31) (v := undef) rfl (by kernel_rfl) (by kernel_rfl) (by kernel_rfl) (fun _ _ _ h => h) (Or.inr ⟨by rfl, rfl⟩) (by assumption) ?_
    (try simp only [Act.put, List.getElem_toArray, List.getElem_cons_zero, List.getElem_cons_succ, List.setIfInBounds_toArray, List.set_cons_zero, List.set_cons_succ])
    refine wpAnyH_take (i := 32) (v := ?_) rfl (by kernel_rfl) (by kernel_rfl) (by kernel_rfl) (fun _ _ _ h => h) (Or.inl ⟨by rfl, ?_⟩) (by assumption) ?_
    rotate_left
    · (intro w hSw; (try dsimp only at hSw); go_split_ands; go_simp; (try with_reducible rfl))
    (try simp only [Act.put, List.getElem_toArray, List.getElem_cons_zero, List.getElem_cons_succ, List.setIfInBounds_toArray, List.set_cons_zero, List.set_cons_succ])
    refine wpAnyH_done (by kernel_rfl) ?_ _
    go_wp2_with (first | ((first | (go_at_call 92; refine (major_any _ _ _ _ _ _ _).mono ?_) | (go_at_call 93; refine (minor_any _ _ _ _ _ _ _).mono ?_) | (go_at_call 94; refine (patch_any _ _ _ _ _ _ _).mono ?_) | (go_at_call 95; refine (pre_any _ _ _ _ _ _ _).mono ?_)); rintro e w' ⟨rfl, hw⟩; replace bn : Below w.heap.size w w' := (by rw [hw]; exact (by repeat (first | assumption | exact Below.refl _ _ | refine below_drewN ?_ _ | refine Below.drew ?_ | refine Below.alloc ?_ (by first | omega | (simp <;> omega)) _))); clear hw; replace nn : w.heap.size ≤ w'.heap.size := bn.size; clear c0 c1 c2 c3 c4 c5 d0 d1 d2 d3 d4 d5 e0 e1 e2 e3 e4 e5; obtain ⟨c0, c1, c2, c3, c4, c5, d0, d1, d2, d3, d4, d5, e0, e1, e2, e3, e4, e5⟩ := cells18 hg hj hk bn) | (go_at_call 63; refine (compare_any _ _ x y z _ _ _ q n r p m o _ (hg.below bn) (hj.below bn) hq hp (he.below bn)).mono ?_; rintro e w' ⟨rfl, hw⟩; rw [HR.out]; replace bn : Below w.heap.size w w' := bn.trans (hw.mono bn.size); clear hw; replace nn : w.heap.size ≤ w'.heap.size := bn.size; clear c0 c1 c2 c3 c4 c5 d0 d1 d2 d3 d4 d5 e0 e1 e2 e3 e4 e5; obtain ⟨c0, c1, c2, c3, c4, c5, d0, d1, d2, d3, d4, d5, e0, e1, e2, e3, e4, e5⟩ := cells18 hg hj hk bn) | (go_at_call 120; refine (errNew_any _ _).mono ?_; rintro e w' ⟨⟨t9, p9, rfl⟩, hw⟩; have bn : Below w.heap.size w w' := (by rw [hw]; exact (by repeat (first | assumption | exact Below.refl _ _ | refine below_drewN ?_ _ | refine Below.drew ?_ | refine Below.alloc ?_ (by first | omega | (simp <;> omega)) _))); clear hw; have nn : w.heap.size ≤ w'.heap.size := bn.size))
    go_ret2
    exact ⟨_, rfl, bn⟩

set_option maxRecDepth 100000 in
set_option maxHeartbeats 16000000 in
theorem mst_mt (g j k : Nat) (x y z a b c : Int) (q n r p m o s : ByteArray) (dy md pd pre : Bool) (w : World) (hg : VerAt w g (verC x y z q n r)) (hj : VerAt w j (verC a b c p m o)) (hk : ConAt w k #[.pointer (some ⟨j, 0, none⟩), .string ⟨#[]⟩, .string s, .bool md, .bool dy, .bool pd]) (hq : q.size ≤ 2147483654) (hp : p.size ≤ 2147483654) (he : Hid (Errs w)) (R : Int) (HR : Hid (cmpI x y z q a b c p = R)) (h0 : openP q pre) (hd : dy = true) (hx : x = a) (hy : b < y) (hm : md = true) :
    Calls Tryd.prog 109 #[.pointer (some ⟨g, 0, none⟩), .pointer (some ⟨k, 0, none⟩), .bool pre] w (HoldPost true w) := by
  subst hd
  subst hx
  subst hm
  have hy2 : (b < y) = True := by simp; exact hy
  rcases open_ways q pre h0 with ⟨h1, h2⟩ | ⟨h1, h2⟩ | ⟨h1, h2⟩
  all_goals subst h2
  all_goals clear h0
  all_goals
    obtain ⟨c0, c1, c2, c3, c4, c5, d0, d1, d2, d3, d4, d5, e0, e1, e2, e3, e4, e5⟩ := cells18 hg hj hk (Below.refl w.heap.size w)
    have bn : Below w.heap.size w w := Below.refl _ _
    have nn : w.heap.size ≤ w.heap.size := Nat.le_refl _
    go_enter Tryd.func109, Tryd.ntmps109
    go_wp2_with (first | ((first | (go_at_call 92; refine (major_any _ _ _ _ _ _ _).mono ?_) | (go_at_call 93; refine (minor_any _ _ _ _ _ _ _).mono ?_) | (go_at_call 94; refine (patch_any _ _ _ _ _ _ _).mono ?_) | (go_at_call 95; refine (pre_any _ _ _ _ _ _ _).mono ?_)); rintro e w' ⟨rfl, hw⟩; replace bn : Below w.heap.size w w' := (by rw [hw]; exact (by repeat (first | assumption | exact Below.refl _ _ | refine below_drewN ?_ _ | refine Below.drew ?_ | refine Below.alloc ?_ (by first | omega | (simp <;> omega)) _))); clear hw; replace nn : w.heap.size ≤ w'.heap.size := bn.size; clear c0 c1 c2 c3 c4 c5 d0 d1 d2 d3 d4 d5 e0 e1 e2 e3 e4 e5; obtain ⟨c0, c1, c2, c3, c4, c5, d0, d1, d2, d3, d4, d5, e0, e1, e2, e3, e4, e5⟩ := cells18 hg hj hk bn) | (go_at_call 63; refine (compare_any _ _ x y z _ _ _ q n r p m o _ (hg.below bn) (hj.below bn) hq hp (he.below bn)).mono ?_; rintro e w' ⟨rfl, hw⟩; rw [HR.out]; replace bn : Below w.heap.size w w' := bn.trans (hw.mono bn.size); clear hw; replace nn : w.heap.size ≤ w'.heap.size := bn.size; clear c0 c1 c2 c3 c4 c5 d0 d1 d2 d3 d4 d5 e0 e1 e2 e3 e4 e5; obtain ⟨c0, c1, c2, c3, c4, c5, d0, d1, d2, d3, d4, d5, e0, e1, e2, e3, e4, e5⟩ := cells18 hg hj hk bn) | (go_at_call 120; refine (errNew_any _ _).mono ?_; rintro e w' ⟨⟨t9, p9, rfl⟩, hw⟩; have bn : Below w.heap.size w w' := (by rw [hw]; exact (by repeat (first | assumption | exact Below.refl _ _ | refine below_drewN ?_ _ | refine Below.drew ?_ | refine Below.alloc ?_ (by first | omega | (simp <;> omega)) _))); clear hw; have nn : w.heap.size ≤ w'.heap.size := bn.size))
    go_region_held3 (fun w' => w'.cell? ⟨g, 0, none⟩ = some (.int .u64 x) ∧ w'.cell? ⟨g, 1, none⟩ = some (.int .u64 y) ∧ w'.cell? ⟨g, 2, none⟩ = some (.int .u64 z) ∧ w'.cell? ⟨g, 3, none⟩ = some (.string q) ∧ w'.cell? ⟨g, 4, none⟩ = some (.string n) ∧ w'.cell? ⟨g, 5, none⟩ = some (.string r) ∧ w'.cell? ⟨j, 0, none⟩ = some (.int .u64 x) ∧ w'.cell? ⟨j, 1, none⟩ = some (.int .u64 b) ∧ w'.cell? ⟨j, 2, none⟩ = some (.int .u64 c) ∧ w'.cell? ⟨j, 3, none⟩ = some (.string p) ∧ w'.cell? ⟨j, 4, none⟩ = some (.string m) ∧ w'.cell? ⟨j, 5, none⟩ = some (.string o) ∧ w'.cell? ⟨k, 0, none⟩ = some (.pointer (some ⟨j, 0, none⟩)) ∧ w'.cell? ⟨k, 1, none⟩ = some (.string ⟨#[]⟩) ∧ w'.cell? ⟨k, 2, none⟩ = some (.string s) ∧ w'.cell? ⟨k, 3, none⟩ = some (.bool true) ∧ w'.cell? ⟨k, 4, none⟩ = some (.bool true) ∧ w'.cell? ⟨k, 5, none⟩ = some (.bool pd)) (first | (refine ⟨?_, ?_, ?_, ?_, ?_, ?_, ?_, ?_, ?_, ?_, ?_, ?_, ?_, ?_, ?_, ?_, ?_, ?_⟩ <;> (repeat (first | assumption | (with_reducible refine keepD ?_) | (with_reducible refine keepN ?_) | (with_reducible refine keepV ?_)))) | go_keep)
        (first | ((first | (go_at_call 92; refine (major_any _ _ _ _ _ _ _).mono ?_) | (go_at_call 93; refine (minor_any _ _ _ _ _ _ _).mono ?_) | (go_at_call 94; refine (patch_any _ _ _ _ _ _ _).mono ?_) | (go_at_call 95; refine (pre_any _ _ _ _ _ _ _).mono ?_)); rintro e w' ⟨rfl, hw⟩; replace bn : Below w.heap.size w w' := (by rw [hw]; exact (by repeat (first | assumption | exact Below.refl _ _ | refine below_drewN ?_ _ | refine Below.drew ?_ | refine Below.alloc ?_ (by first | omega | (simp <;> omega)) _))); clear hw; replace nn : w.heap.size ≤ w'.heap.size := bn.size; clear c0 c1 c2 c3 c4 c5 d0 d1 d2 d3 d4 d5 e0 e1 e2 e3 e4 e5; obtain ⟨c0, c1, c2, c3, c4, c5, d0, d1, d2, d3, d4, d5, e0, e1, e2, e3, e4, e5⟩ := cells18 hg hj hk bn))
    go_wp2_with (first | ((first | (go_at_call 92; refine (major_any _ _ _ _ _ _ _).mono ?_) | (go_at_call 93; refine (minor_any _ _ _ _ _ _ _).mono ?_) | (go_at_call 94; refine (patch_any _ _ _ _ _ _ _).mono ?_) | (go_at_call 95; refine (pre_any _ _ _ _ _ _ _).mono ?_)); rintro e w' ⟨rfl, hw⟩; replace bn : Below w.heap.size w w' := (by rw [hw]; exact (by repeat (first | assumption | exact Below.refl _ _ | refine below_drewN ?_ _ | refine Below.drew ?_ | refine Below.alloc ?_ (by first | omega | (simp <;> omega)) _))); clear hw; replace nn : w.heap.size ≤ w'.heap.size := bn.size; clear c0 c1 c2 c3 c4 c5 d0 d1 d2 d3 d4 d5 e0 e1 e2 e3 e4 e5; obtain ⟨c0, c1, c2, c3, c4, c5, d0, d1, d2, d3, d4, d5, e0, e1, e2, e3, e4, e5⟩ := cells18 hg hj hk bn) | (go_at_call 63; refine (compare_any _ _ x y z _ _ _ q n r p m o _ (hg.below bn) (hj.below bn) hq hp (he.below bn)).mono ?_; rintro e w' ⟨rfl, hw⟩; rw [HR.out]; replace bn : Below w.heap.size w w' := bn.trans (hw.mono bn.size); clear hw; replace nn : w.heap.size ≤ w'.heap.size := bn.size; clear c0 c1 c2 c3 c4 c5 d0 d1 d2 d3 d4 d5 e0 e1 e2 e3 e4 e5; obtain ⟨c0, c1, c2, c3, c4, c5, d0, d1, d2, d3, d4, d5, e0, e1, e2, e3, e4, e5⟩ := cells18 hg hj hk bn) | (go_at_call 120; refine (errNew_any _ _).mono ?_; rintro e w' ⟨⟨t9, p9, rfl⟩, hw⟩; have bn : Below w.heap.size w w' := (by rw [hw]; exact (by repeat (first | assumption | exact Below.refl _ _ | refine below_drewN ?_ _ | refine Below.drew ?_ | refine Below.alloc ?_ (by first | omega | (simp <;> omega)) _))); clear hw; have nn : w.heap.size ≤ w'.heap.size := bn.size))
    go_region_held3 (fun w' => w'.cell? ⟨g, 0, none⟩ = some (.int .u64 x) ∧ w'.cell? ⟨g, 1, none⟩ = some (.int .u64 y) ∧ w'.cell? ⟨g, 2, none⟩ = some (.int .u64 z) ∧ w'.cell? ⟨g, 3, none⟩ = some (.string q) ∧ w'.cell? ⟨g, 4, none⟩ = some (.string n) ∧ w'.cell? ⟨g, 5, none⟩ = some (.string r) ∧ w'.cell? ⟨j, 0, none⟩ = some (.int .u64 x) ∧ w'.cell? ⟨j, 1, none⟩ = some (.int .u64 b) ∧ w'.cell? ⟨j, 2, none⟩ = some (.int .u64 c) ∧ w'.cell? ⟨j, 3, none⟩ = some (.string p) ∧ w'.cell? ⟨j, 4, none⟩ = some (.string m) ∧ w'.cell? ⟨j, 5, none⟩ = some (.string o) ∧ w'.cell? ⟨k, 0, none⟩ = some (.pointer (some ⟨j, 0, none⟩)) ∧ w'.cell? ⟨k, 1, none⟩ = some (.string ⟨#[]⟩) ∧ w'.cell? ⟨k, 2, none⟩ = some (.string s) ∧ w'.cell? ⟨k, 3, none⟩ = some (.bool true) ∧ w'.cell? ⟨k, 4, none⟩ = some (.bool true) ∧ w'.cell? ⟨k, 5, none⟩ = some (.bool pd)) (first | (refine ⟨?_, ?_, ?_, ?_, ?_, ?_, ?_, ?_, ?_, ?_, ?_, ?_, ?_, ?_, ?_, ?_, ?_, ?_⟩ <;> (repeat (first | assumption | (with_reducible refine keepD ?_) | (with_reducible refine keepN ?_) | (with_reducible refine keepV ?_)))) | go_keep)
        (first | ((first | (go_at_call 92; refine (major_any _ _ _ _ _ _ _).mono ?_) | (go_at_call 93; refine (minor_any _ _ _ _ _ _ _).mono ?_) | (go_at_call 94; refine (patch_any _ _ _ _ _ _ _).mono ?_) | (go_at_call 95; refine (pre_any _ _ _ _ _ _ _).mono ?_)); rintro e w' ⟨rfl, hw⟩; replace bn : Below w.heap.size w w' := (by rw [hw]; exact (by repeat (first | assumption | exact Below.refl _ _ | refine below_drewN ?_ _ | refine Below.drew ?_ | refine Below.alloc ?_ (by first | omega | (simp <;> omega)) _))); clear hw; replace nn : w.heap.size ≤ w'.heap.size := bn.size; clear c0 c1 c2 c3 c4 c5 d0 d1 d2 d3 d4 d5 e0 e1 e2 e3 e4 e5; obtain ⟨c0, c1, c2, c3, c4, c5, d0, d1, d2, d3, d4, d5, e0, e1, e2, e3, e4, e5⟩ := cells18 hg hj hk bn))
    go_wp2_with (first | ((first | (go_at_call 92; refine (major_any _ _ _ _ _ _ _).mono ?_) | (go_at_call 93; refine (minor_any _ _ _ _ _ _ _).mono ?_) | (go_at_call 94; refine (patch_any _ _ _ _ _ _ _).mono ?_) | (go_at_call 95; refine (pre_any _ _ _ _ _ _ _).mono ?_)); rintro e w' ⟨rfl, hw⟩; replace bn : Below w.heap.size w w' := (by rw [hw]; exact (by repeat (first | assumption | exact Below.refl _ _ | refine below_drewN ?_ _ | refine Below.drew ?_ | refine Below.alloc ?_ (by first | omega | (simp <;> omega)) _))); clear hw; replace nn : w.heap.size ≤ w'.heap.size := bn.size; clear c0 c1 c2 c3 c4 c5 d0 d1 d2 d3 d4 d5 e0 e1 e2 e3 e4 e5; obtain ⟨c0, c1, c2, c3, c4, c5, d0, d1, d2, d3, d4, d5, e0, e1, e2, e3, e4, e5⟩ := cells18 hg hj hk bn) | (go_at_call 63; refine (compare_any _ _ x y z _ _ _ q n r p m o _ (hg.below bn) (hj.below bn) hq hp (he.below bn)).mono ?_; rintro e w' ⟨rfl, hw⟩; rw [HR.out]; replace bn : Below w.heap.size w w' := bn.trans (hw.mono bn.size); clear hw; replace nn : w.heap.size ≤ w'.heap.size := bn.size; clear c0 c1 c2 c3 c4 c5 d0 d1 d2 d3 d4 d5 e0 e1 e2 e3 e4 e5; obtain ⟨c0, c1, c2, c3, c4, c5, d0, d1, d2, d3, d4, d5, e0, e1, e2, e3, e4, e5⟩ := cells18 hg hj hk bn) | (go_at_call 120; refine (errNew_any _ _).mono ?_; rintro e w' ⟨⟨t9, p9, rfl⟩, hw⟩; have bn : Below w.heap.size w w' := (by rw [hw]; exact (by repeat (first | assumption | exact Below.refl _ _ | refine below_drewN ?_ _ | refine Below.drew ?_ | refine Below.alloc ?_ (by first | omega | (simp <;> omega)) _))); clear hw; have nn : w.heap.size ≤ w'.heap.size := bn.size))
    go_ret2
    exact ⟨_, rfl, bn⟩

set_option maxRecDepth 100000 in
set_option maxHeartbeats 16000000 in
theorem mst_mf (g j k : Nat) (x y z a b c : Int) (q n r p m o s : ByteArray) (dy md pd pre : Bool) (w : World) (hg : VerAt w g (verC x y z q n r)) (hj : VerAt w j (verC a b c p m o)) (hk : ConAt w k #[.pointer (some ⟨j, 0, none⟩), .string ⟨#[]⟩, .string s, .bool md, .bool dy, .bool pd]) (hq : q.size ≤ 2147483654) (hp : p.size ≤ 2147483654) (he : Hid (Errs w)) (R : Int) (HR : Hid (cmpI x y z q a b c p = R)) (h0 : openP q pre) (hd : dy = true) (hx : x = a) (hy : b < y) (hm : md = false) :
    Calls Tryd.prog 109 #[.pointer (some ⟨g, 0, none⟩), .pointer (some ⟨k, 0, none⟩), .bool pre] w (HoldPost false w) := by
  subst hd
  subst hx
  subst hm
  have hy2 : (b < y) = True := by simp; exact hy
  rcases open_ways q pre h0 with ⟨h1, h2⟩ | ⟨h1, h2⟩ | ⟨h1, h2⟩
  all_goals subst h2
  all_goals clear h0
  all_goals
    obtain ⟨c0, c1, c2, c3, c4, c5, d0, d1, d2, d3, d4, d5, e0, e1, e2, e3, e4, e5⟩ := cells18 hg hj hk (Below.refl w.heap.size w)
    have bn : Below w.heap.size w w := Below.refl _ _
    have nn : w.heap.size ≤ w.heap.size := Nat.le_refl _
    go_enter Tryd.func109, Tryd.ntmps109
    go_wp2_with (first | ((first | (go_at_call 92; refine (major_any _ _ _ _ _ _ _).mono ?_) | (go_at_call 93; refine (minor_any _ _ _ _ _ _ _).mono ?_) | (go_at_call 94; refine (patch_any _ _ _ _ _ _ _).mono ?_) | (go_at_call 95; refine (pre_any _ _ _ _ _ _ _).mono ?_)); rintro e w' ⟨rfl, hw⟩; replace bn : Below w.heap.size w w' := (by rw [hw]; exact (by repeat (first | assumption | exact Below.refl _ _ | refine below_drewN ?_ _ | refine Below.drew ?_ | refine Below.alloc ?_ (by first | omega | (simp <;> omega)) _))); clear hw; replace nn : w.heap.size ≤ w'.heap.size := bn.size; clear c0 c1 c2 c3 c4 c5 d0 d1 d2 d3 d4 d5 e0 e1 e2 e3 e4 e5; obtain ⟨c0, c1, c2, c3, c4, c5, d0, d1, d2, d3, d4, d5, e0, e1, e2, e3, e4, e5⟩ := cells18 hg hj hk bn) | (go_at_call 63; refine (compare_any _ _ x y z _ _ _ q n r p m o _ (hg.below bn) (hj.below bn) hq hp (he.below bn)).mono ?_; rintro e w' ⟨rfl, hw⟩; rw [HR.out]; replace bn : Below w.heap.size w w' := bn.trans (hw.mono bn.size); clear hw; replace nn : w.heap.size ≤ w'.heap.size := bn.size; clear c0 c1 c2 c3 c4 c5 d0 d1 d2 d3 d4 d5 e0 e1 e2 e3 e4 e5; obtain ⟨c0, c1, c2, c3, c4, c5, d0, d1, d2, d3, d4, d5, e0, e1, e2, e3, e4, e5⟩ := cells18 hg hj hk bn) | (go_at_call 120; refine (errNew_any _ _).mono ?_; rintro e w' ⟨⟨t9, p9, rfl⟩, hw⟩; have bn : Below w.heap.size w w' := (by rw [hw]; exact (by repeat (first | assumption | exact Below.refl _ _ | refine below_drewN ?_ _ | refine Below.drew ?_ | refine Below.alloc ?_ (by first | omega | (simp <;> omega)) _))); clear hw; have nn : w.heap.size ≤ w'.heap.size := bn.size))
    go_region_held3 (fun w' => w'.cell? ⟨g, 0, none⟩ = some (.int .u64 x) ∧ w'.cell? ⟨g, 1, none⟩ = some (.int .u64 y) ∧ w'.cell? ⟨g, 2, none⟩ = some (.int .u64 z) ∧ w'.cell? ⟨g, 3, none⟩ = some (.string q) ∧ w'.cell? ⟨g, 4, none⟩ = some (.string n) ∧ w'.cell? ⟨g, 5, none⟩ = some (.string r) ∧ w'.cell? ⟨j, 0, none⟩ = some (.int .u64 x) ∧ w'.cell? ⟨j, 1, none⟩ = some (.int .u64 b) ∧ w'.cell? ⟨j, 2, none⟩ = some (.int .u64 c) ∧ w'.cell? ⟨j, 3, none⟩ = some (.string p) ∧ w'.cell? ⟨j, 4, none⟩ = some (.string m) ∧ w'.cell? ⟨j, 5, none⟩ = some (.string o) ∧ w'.cell? ⟨k, 0, none⟩ = some (.pointer (some ⟨j, 0, none⟩)) ∧ w'.cell? ⟨k, 1, none⟩ = some (.string ⟨#[]⟩) ∧ w'.cell? ⟨k, 2, none⟩ = some (.string s) ∧ w'.cell? ⟨k, 3, none⟩ = some (.bool false) ∧ w'.cell? ⟨k, 4, none⟩ = some (.bool true) ∧ w'.cell? ⟨k, 5, none⟩ = some (.bool pd)) (first | (refine ⟨?_, ?_, ?_, ?_, ?_, ?_, ?_, ?_, ?_, ?_, ?_, ?_, ?_, ?_, ?_, ?_, ?_, ?_⟩ <;> (repeat (first | assumption | (with_reducible refine keepD ?_) | (with_reducible refine keepN ?_) | (with_reducible refine keepV ?_)))) | go_keep)
        (first | ((first | (go_at_call 92; refine (major_any _ _ _ _ _ _ _).mono ?_) | (go_at_call 93; refine (minor_any _ _ _ _ _ _ _).mono ?_) | (go_at_call 94; refine (patch_any _ _ _ _ _ _ _).mono ?_) | (go_at_call 95; refine (pre_any _ _ _ _ _ _ _).mono ?_)); rintro e w' ⟨rfl, hw⟩; replace bn : Below w.heap.size w w' := (by rw [hw]; exact (by repeat (first | assumption | exact Below.refl _ _ | refine below_drewN ?_ _ | refine Below.drew ?_ | refine Below.alloc ?_ (by first | omega | (simp <;> omega)) _))); clear hw; replace nn : w.heap.size ≤ w'.heap.size := bn.size; clear c0 c1 c2 c3 c4 c5 d0 d1 d2 d3 d4 d5 e0 e1 e2 e3 e4 e5; obtain ⟨c0, c1, c2, c3, c4, c5, d0, d1, d2, d3, d4, d5, e0, e1, e2, e3, e4, e5⟩ := cells18 hg hj hk bn))
    go_wp2_with (first | ((first | (go_at_call 92; refine (major_any _ _ _ _ _ _ _).mono ?_) | (go_at_call 93; refine (minor_any _ _ _ _ _ _ _).mono ?_) | (go_at_call 94; refine (patch_any _ _ _ _ _ _ _).mono ?_) | (go_at_call 95; refine (pre_any _ _ _ _ _ _ _).mono ?_)); rintro e w' ⟨rfl, hw⟩; replace bn : Below w.heap.size w w' := (by rw [hw]; exact (by repeat (first | assumption | exact Below.refl _ _ | refine below_drewN ?_ _ | refine Below.drew ?_ | refine Below.alloc ?_ (by first | omega | (simp <;> omega)) _))); clear hw; replace nn : w.heap.size ≤ w'.heap.size := bn.size; clear c0 c1 c2 c3 c4 c5 d0 d1 d2 d3 d4 d5 e0 e1 e2 e3 e4 e5; obtain ⟨c0, c1, c2, c3, c4, c5, d0, d1, d2, d3, d4, d5, e0, e1, e2, e3, e4, e5⟩ := cells18 hg hj hk bn) | (go_at_call 63; refine (compare_any _ _ x y z _ _ _ q n r p m o _ (hg.below bn) (hj.below bn) hq hp (he.below bn)).mono ?_; rintro e w' ⟨rfl, hw⟩; rw [HR.out]; replace bn : Below w.heap.size w w' := bn.trans (hw.mono bn.size); clear hw; replace nn : w.heap.size ≤ w'.heap.size := bn.size; clear c0 c1 c2 c3 c4 c5 d0 d1 d2 d3 d4 d5 e0 e1 e2 e3 e4 e5; obtain ⟨c0, c1, c2, c3, c4, c5, d0, d1, d2, d3, d4, d5, e0, e1, e2, e3, e4, e5⟩ := cells18 hg hj hk bn) | (go_at_call 120; refine (errNew_any _ _).mono ?_; rintro e w' ⟨⟨t9, p9, rfl⟩, hw⟩; have bn : Below w.heap.size w w' := (by rw [hw]; exact (by repeat (first | assumption | exact Below.refl _ _ | refine below_drewN ?_ _ | refine Below.drew ?_ | refine Below.alloc ?_ (by first | omega | (simp <;> omega)) _))); clear hw; have nn : w.heap.size ≤ w'.heap.size := bn.size))
    go_region_held3 (fun w' => w'.cell? ⟨g, 0, none⟩ = some (.int .u64 x) ∧ w'.cell? ⟨g, 1, none⟩ = some (.int .u64 y) ∧ w'.cell? ⟨g, 2, none⟩ = some (.int .u64 z) ∧ w'.cell? ⟨g, 3, none⟩ = some (.string q) ∧ w'.cell? ⟨g, 4, none⟩ = some (.string n) ∧ w'.cell? ⟨g, 5, none⟩ = some (.string r) ∧ w'.cell? ⟨j, 0, none⟩ = some (.int .u64 x) ∧ w'.cell? ⟨j, 1, none⟩ = some (.int .u64 b) ∧ w'.cell? ⟨j, 2, none⟩ = some (.int .u64 c) ∧ w'.cell? ⟨j, 3, none⟩ = some (.string p) ∧ w'.cell? ⟨j, 4, none⟩ = some (.string m) ∧ w'.cell? ⟨j, 5, none⟩ = some (.string o) ∧ w'.cell? ⟨k, 0, none⟩ = some (.pointer (some ⟨j, 0, none⟩)) ∧ w'.cell? ⟨k, 1, none⟩ = some (.string ⟨#[]⟩) ∧ w'.cell? ⟨k, 2, none⟩ = some (.string s) ∧ w'.cell? ⟨k, 3, none⟩ = some (.bool false) ∧ w'.cell? ⟨k, 4, none⟩ = some (.bool true) ∧ w'.cell? ⟨k, 5, none⟩ = some (.bool pd)) (first | (refine ⟨?_, ?_, ?_, ?_, ?_, ?_, ?_, ?_, ?_, ?_, ?_, ?_, ?_, ?_, ?_, ?_, ?_, ?_⟩ <;> (repeat (first | assumption | (with_reducible refine keepD ?_) | (with_reducible refine keepN ?_) | (with_reducible refine keepV ?_)))) | go_keep)
        (first | ((first | (go_at_call 92; refine (major_any _ _ _ _ _ _ _).mono ?_) | (go_at_call 93; refine (minor_any _ _ _ _ _ _ _).mono ?_) | (go_at_call 94; refine (patch_any _ _ _ _ _ _ _).mono ?_) | (go_at_call 95; refine (pre_any _ _ _ _ _ _ _).mono ?_)); rintro e w' ⟨rfl, hw⟩; replace bn : Below w.heap.size w w' := (by rw [hw]; exact (by repeat (first | assumption | exact Below.refl _ _ | refine below_drewN ?_ _ | refine Below.drew ?_ | refine Below.alloc ?_ (by first | omega | (simp <;> omega)) _))); clear hw; replace nn : w.heap.size ≤ w'.heap.size := bn.size; clear c0 c1 c2 c3 c4 c5 d0 d1 d2 d3 d4 d5 e0 e1 e2 e3 e4 e5; obtain ⟨c0, c1, c2, c3, c4, c5, d0, d1, d2, d3, d4, d5, e0, e1, e2, e3, e4, e5⟩ := cells18 hg hj hk bn))
    go_wp2_with (first | ((first | (go_at_call 92; refine (major_any _ _ _ _ _ _ _).mono ?_) | (go_at_call 93; refine (minor_any _ _ _ _ _ _ _).mono ?_) | (go_at_call 94; refine (patch_any _ _ _ _ _ _ _).mono ?_) | (go_at_call 95; refine (pre_any _ _ _ _ _ _ _).mono ?_)); rintro e w' ⟨rfl, hw⟩; replace bn : Below w.heap.size w w' := (by rw [hw]; exact (by repeat (first | assumption | exact Below.refl _ _ | refine below_drewN ?_ _ | refine Below.drew ?_ | refine Below.alloc ?_ (by first | omega | (simp <;> omega)) _))); clear hw; replace nn : w.heap.size ≤ w'.heap.size := bn.size; clear c0 c1 c2 c3 c4 c5 d0 d1 d2 d3 d4 d5 e0 e1 e2 e3 e4 e5; obtain ⟨c0, c1, c2, c3, c4, c5, d0, d1, d2, d3, d4, d5, e0, e1, e2, e3, e4, e5⟩ := cells18 hg hj hk bn) | (go_at_call 63; refine (compare_any _ _ x y z _ _ _ q n r p m o _ (hg.below bn) (hj.below bn) hq hp (he.below bn)).mono ?_; rintro e w' ⟨rfl, hw⟩; rw [HR.out]; replace bn : Below w.heap.size w w' := bn.trans (hw.mono bn.size); clear hw; replace nn : w.heap.size ≤ w'.heap.size := bn.size; clear c0 c1 c2 c3 c4 c5 d0 d1 d2 d3 d4 d5 e0 e1 e2 e3 e4 e5; obtain ⟨c0, c1, c2, c3, c4, c5, d0, d1, d2, d3, d4, d5, e0, e1, e2, e3, e4, e5⟩ := cells18 hg hj hk bn) | (go_at_call 120; refine (errNew_any _ _).mono ?_; rintro e w' ⟨⟨t9, p9, rfl⟩, hw⟩; have bn : Below w.heap.size w w' := (by rw [hw]; exact (by repeat (first | assumption | exact Below.refl _ _ | refine below_drewN ?_ _ | refine Below.drew ?_ | refine Below.alloc ?_ (by first | omega | (simp <;> omega)) _))); clear hw; have nn : w.heap.size ≤ w'.heap.size := bn.size))
    go_ret2
    exact ⟨_, rfl, bn⟩

/-- What <= answers. -/
def mostV (dy md ax xa yb rl : Bool) : Bool := bif dy then (bif ax then false else bif xa then true else bif yb then md else true) else rl

theorem mst_any (g j k : Nat) (x y z a b c : Int) (q n r p m o s : ByteArray) (dy md pd pre : Bool) (w : World) (hg : VerAt w g (verC x y z q n r)) (hj : VerAt w j (verC a b c p m o)) (hk : ConAt w k #[.pointer (some ⟨j, 0, none⟩), .string ⟨#[]⟩, .string s, .bool md, .bool dy, .bool pd]) (hq : q.size ≤ 2147483654) (hp : p.size ≤ 2147483654) (he : Hid (Errs w)) (hsh : q.toList.isEmpty = false → pre = false → Calls Tryd.prog 109 #[.pointer (some ⟨g, 0, none⟩), .pointer (some ⟨k, 0, none⟩), .bool pre] w (HoldPost false w)) :
    Calls Tryd.prog 109 #[.pointer (some ⟨g, 0, none⟩), .pointer (some ⟨k, 0, none⟩), .bool pre] w (HoldPost (shutB q.toList.isEmpty pre (mostV dy md (decide (a < x)) (decide (x < a)) (decide (b < y)) (decide ((cmpI x y z q a b c p) ≤ 0)))) w) := by
  obtain ⟨R, HR⟩ : ∃ R, Hid (cmpI x y z q a b c p = R) := ⟨_, rfl⟩
  rw [HR.out]
  rcases open_or q pre with h0 | ⟨h1, h2⟩
  · rw [shut_open q pre _ h0]
    cases hd : dy with
    | false =>
      subst hd
      by_cases hr : R ≤ 0
      · rw [decide_eq_true hr]; exact mst_d1 g j k x y z a b c q n r p m o s false md pd pre w hg hj hk hq hp he R HR h0 rfl hr
      · rw [decide_eq_false hr]; exact mst_d0 g j k x y z a b c q n r p m o s false md pd pre w hg hj hk hq hp he R HR h0 rfl hr
    | true =>
      subst hd
      by_cases ha : a < x
      · rw [decide_eq_true ha]; exact mst_gt g j k x y z a b c q n r p m o s true md pd pre w hg hj hk hq hp he R HR h0 rfl ha
      · rw [decide_eq_false ha]
        by_cases hxa : x < a
        · rw [decide_eq_true hxa]; exact mst_lt g j k x y z a b c q n r p m o s true md pd pre w hg hj hk hq hp he R HR h0 rfl hxa
        · rw [decide_eq_false hxa]
          have hx : x = a := by omega
          by_cases hy : b < y
          · rw [decide_eq_true hy]
            cases hm : md with
            | true => subst hm; exact mst_mt g j k x y z a b c q n r p m o s true true pd pre w hg hj hk hq hp he R HR h0 rfl hx hy rfl
            | false => subst hm; exact mst_mf g j k x y z a b c q n r p m o s true false pd pre w hg hj hk hq hp he R HR h0 rfl hx hy rfl
          · rw [decide_eq_false hy]; exact mst_le g j k x y z a b c q n r p m o s true md pd pre w hg hj hk hq hp he R HR h0 rfl hx (by omega)
  · rw [shut_shut q pre _ h1 h2]
    exact hsh h1 h2

end Go.Proofs.YtdlpcfhhpjjjmaaDoor
