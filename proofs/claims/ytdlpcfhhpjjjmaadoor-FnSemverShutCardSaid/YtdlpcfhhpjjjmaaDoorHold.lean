/- semver.ZZTilde. -/
import Derived.Test.YtdlpcfhhpjjjmaaDoorTildeD
namespace Go.Proofs.YtdlpcfhhpjjjmaaDoor
open Go.RowKit
set_option linter.unusedVariables false
set_option linter.unusedSimpArgs false

theorem conAt_last (W : World) (cs : Array Value) (n : Nat) (hn : n = W.heap.size) : ConAt (W.alloc (.cells cs 112)) n cs := by subst hn; exact heap_alloc_new W _

set_option maxRecDepth 100000 in
set_option maxHeartbeats 1000000 in
theorem zzTilde_any (g j : Nat) (x y z a b c : Int) (q n r p m o s : ByteArray) (dy md pd pre : Bool) (w : World) (hg : VerAt w g (verC x y z q n r)) (hj : VerAt w j (verC a b c p m o)) (hq : q.size ≤ 2147483654) (hp : p.size ≤ 2147483654) (he : Hid (Errs w)) :
    Calls Tryd.prog 68 #[.agg (zzC s j dy md pd), .pointer (some ⟨g, 0, none⟩), .bool pre] w (HoldPost (tildeB pre q p x y z a b c md pd) w) := by
  go_enter Tryd.func68, Tryd.ntmps68
  go_wp2_with fail
  refine (inner_any _ _ _ _ _ _).mono ?_
  rintro e w1 ⟨rfl, hw⟩
  have K1 : ConAt w1 (w.heap.size + 1 + 1) (conC s j dy md pd) := by rw [hw]; exact conAt_last _ _ _ (by simp)
  have b1 : Below w.heap.size w w1 := by
    rw [hw]; exact (by repeat (first | assumption | exact Below.refl _ _ | refine Below.drew ?_ | refine Below.alloc ?_ (by first | omega | (simp <;> omega)) _))
  clear hw
  go_wp2_with fail
  refine (tilde_any g j _ x y z a b c q n r p m o s dy md pd pre w1 (hg.below b1) (hj.below b1) K1 hq hp (he.below b1)).mono ?_
  rintro e w2 ⟨ev, rfl, hb2⟩
  go_wp2_with fail
  go_ret2
  exact ⟨_, rfl, b1.trans (hb2.mono b1.size)⟩
end Go.Proofs.YtdlpcfhhpjjjmaaDoor
