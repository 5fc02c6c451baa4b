/- semver.ZZCheck, impl.TermHolds over any operator whose check is known. -/
import Derived.Test.YtdlpcfhhpjjjmaaDoorTermS
import Derived.Test.YtdlpcfhhpjjjmaaDoorHoldsLeast
namespace Go.Proofs.YtdlpcfhhpjjjmaaDoor
open Go.RowKit
set_option linter.unusedVariables false
set_option linter.unusedSimpArgs false

theorem termS_any (o g a b c : Int) (p : ByteArray) (hg : 0 ≤ g ∧ g ≤ 3) (dy md pd : Bool) (HD : Hid (dirtyIs g dy md pd)) (s : ByteArray) (hs : Hid (OpIs o s)) (w : World) :
    Calls Tryd.prog 69 #[.agg (termC o g a b c p)] w (TermPostS s a b c p dy md pd w) := by
  obtain ⟨rfl, rfl, rfl⟩ := HD.out
  have h3 : g = 0 ∨ g = 1 ∨ g = 2 ∨ g = 3 := by omega
  rcases h3 with rfl | rfl | rfl | rfl
  · exact termS_0 o a b c p w s hs
  · exact termS_1 o a b c p w s hs
  · exact termS_2 o a b c p w s hs
  · exact termS_3 o a b c p w s hs

/-- The check of a constraint with the text s over these versions is T. -/
def CheckIs (s : ByteArray) (x y z a b c : Int) (q p : ByteArray) (dy md pd pre T : Bool) : Prop :=
  ∀ (g j k : Nat) (n r m o : ByteArray) (W : World), VerAt W g (verC x y z q n r) → VerAt W j (verC a b c p m o) → ConAt W k (conC s j dy md pd) → g ≠ j → Hid (Errs W) →
    Calls Tryd.prog 104 #[.pointer (some ⟨k, 0, none⟩), .pointer (some ⟨g, 0, none⟩), .bool pre] W (HoldPost T W)

set_option maxRecDepth 100000 in
set_option maxHeartbeats 1000000 in
theorem zzCheck_any (g j : Nat) (x y z a b c : Int) (q n r p m o s : ByteArray) (dy md pd pre : Bool) (w : World) (hg : VerAt w g (verC x y z q n r)) (hj : VerAt w j (verC a b c p m o)) (he : Hid (Errs w)) (hne : g ≠ j) (T : Bool) (hT : Hid (CheckIs s x y z a b c q p dy md pd pre T)) :
    Calls Tryd.prog 72 #[.agg (zzC s j dy md pd), .pointer (some ⟨g, 0, none⟩), .bool pre] w (HoldPost T w) := by
  go_enter Tryd.func72, Tryd.ntmps72
  go_wp2_with fail
  refine (inner_any _ _ _ _ _ _).mono ?_
  rintro e w1 ⟨rfl, hw⟩
  have K1 : ConAt w1 (w.heap.size + 1 + 1) (conC s j dy md pd) := by rw [hw]; exact conAt_new _ _ _ (by simp)
  have b1 : Below w.heap.size w w1 := by
    rw [hw]; exact (by repeat (first | assumption | exact Below.refl _ _ | refine below_drewN ?_ _ | refine Below.drew ?_ | refine Below.alloc ?_ (by first | omega | (simp <;> omega)) _))
  clear hw
  go_wp2_with fail
  refine (hT.out g j _ n r m o w1 (hg.below b1) (hj.below b1) K1 hne (he.below b1)).mono ?_
  rintro e w2 ⟨ev, rfl, hb2⟩
  go_wp2_with fail
  go_ret2
  exact ⟨_, rfl, b1.trans (hb2.mono b1.size)⟩

set_option maxRecDepth 100000 in
set_option maxHeartbeats 4000000 in
theorem termHolds_any (o g a b c x y z : Int) (hg : 0 ≤ g ∧ g ≤ 3) (dy md pd : Bool) (HD : Hid (dirtyIs g dy md pd)) (p q n : ByteArray) (pre : Bool) (w : World) (he : Hid (Errs w)) (s : ByteArray) (hs : Hid (OpIs o s)) (T : Bool) (hT : Hid (CheckIs s x y z a b c q p dy md pd pre T)) :
    Calls Tryd.prog 32 #[.agg (termC o g a b c p), .agg (plainC x y z q n), .bool pre] w (BoolPost T w) := by
  go_enter Tryd.func32, Tryd.ntmps32
  go_wp2_with fail
  refine wp_named ?_
  intro W0 hW0
  have c0 : W0.cell? ⟨w.heap.size, 0, none⟩ = some (.int .i64 o) := by rw [← hW0]; exact keepV (TermAt w _ _ rfl 0)
  have c1 : W0.cell? ⟨w.heap.size, 1, none⟩ = some (.int .i64 g) := by rw [← hW0]; exact keepV (TermAt w _ _ rfl 1)
  have c2 : W0.cell? ⟨w.heap.size, 2, none⟩ = some (.int .u64 a) := by rw [← hW0]; exact keepV (TermAt w _ _ rfl 2)
  have c3 : W0.cell? ⟨w.heap.size, 3, none⟩ = some (.int .u64 b) := by rw [← hW0]; exact keepV (TermAt w _ _ rfl 3)
  have c4 : W0.cell? ⟨w.heap.size, 4, none⟩ = some (.int .u64 c) := by rw [← hW0]; exact keepV (TermAt w _ _ rfl 4)
  have c5 : W0.cell? ⟨w.heap.size, 5, none⟩ = some (.string p) := by rw [← hW0]; exact keepV (TermAt w _ _ rfl 5)
  have d0 : W0.cell? ⟨w.heap.size + 1, 0, none⟩ = some (.int .u64 x) := by rw [← hW0]; exact (plainAt_last _ _ _ (by simp)).cell 0
  have d1 : W0.cell? ⟨w.heap.size + 1, 1, none⟩ = some (.int .u64 y) := by rw [← hW0]; exact (plainAt_last _ _ _ (by simp)).cell 1
  have d2 : W0.cell? ⟨w.heap.size + 1, 2, none⟩ = some (.int .u64 z) := by rw [← hW0]; exact (plainAt_last _ _ _ (by simp)).cell 2
  have d3 : W0.cell? ⟨w.heap.size + 1, 3, none⟩ = some (.string q) := by rw [← hW0]; exact (plainAt_last _ _ _ (by simp)).cell 3
  have d4 : W0.cell? ⟨w.heap.size + 1, 4, none⟩ = some (.string n) := by rw [← hW0]; exact (plainAt_last _ _ _ (by simp)).cell 4
  have b0 : Below w.heap.size w W0 := by rw [← hW0]; exact (by repeat (first | assumption | exact Below.refl _ _ | refine below_drewN ?_ _ | refine Below.drew ?_ | refine Below.alloc ?_ (by first | omega | (simp <;> omega)) _))
  have n0 : w.heap.size + 2 ≤ W0.heap.size := by rw [← hW0]; simp
  clear hW0
  go_region_held3 (fun w' => w'.cell? ⟨w.heap.size, 0, none⟩ = some (.int .i64 o) ∧ w'.cell? ⟨w.heap.size, 1, none⟩ = some (.int .i64 g) ∧ w'.cell? ⟨w.heap.size, 2, none⟩ = some (.int .u64 a) ∧ w'.cell? ⟨w.heap.size, 3, none⟩ = some (.int .u64 b) ∧ w'.cell? ⟨w.heap.size, 4, none⟩ = some (.int .u64 c) ∧ w'.cell? ⟨w.heap.size, 5, none⟩ = some (.string p) ∧ w'.cell? ⟨w.heap.size + 1, 0, none⟩ = some (.int .u64 x) ∧ w'.cell? ⟨w.heap.size + 1, 1, none⟩ = some (.int .u64 y) ∧ w'.cell? ⟨w.heap.size + 1, 2, none⟩ = some (.int .u64 z) ∧ w'.cell? ⟨w.heap.size + 1, 3, none⟩ = some (.string q) ∧ w'.cell? ⟨w.heap.size + 1, 4, none⟩ = some (.string n)) (first | (refine ⟨?_, ?_, ?_, ?_, ?_, ?_, ?_, ?_, ?_, ?_, ?_⟩ <;> (repeat (first | assumption | (with_reducible refine keepD ?_) | (with_reducible refine keepN ?_) | (with_reducible refine keepV ?_)))) | go_keep)
    (first | (go_at_call 69; refine (termS_any o g a b c p hg dy md pd HD s hs _).mono ?_; rintro e w' ⟨kb, rfl, hv, hkb, hb⟩; have kc0 : w'.cell? ⟨w.heap.size, 0, none⟩ = some (.int .i64 o) := (by refine keepB hb (by first | omega | (simp <;> omega)) ?_; (repeat (first | assumption | (with_reducible refine keepD ?_) | (with_reducible refine keepN ?_) | (with_reducible refine keepV ?_)))); have kc1 : w'.cell? ⟨w.heap.size, 1, none⟩ = some (.int .i64 g) := (by refine keepB hb (by first | omega | (simp <;> omega)) ?_; (repeat (first | assumption | (with_reducible refine keepD ?_) | (with_reducible refine keepN ?_) | (with_reducible refine keepV ?_)))); have kc2 : w'.cell? ⟨w.heap.size, 2, none⟩ = some (.int .u64 a) := (by refine keepB hb (by first | omega | (simp <;> omega)) ?_; (repeat (first | assumption | (with_reducible refine keepD ?_) | (with_reducible refine keepN ?_) | (with_reducible refine keepV ?_)))); have kc3 : w'.cell? ⟨w.heap.size, 3, none⟩ = some (.int .u64 b) := (by refine keepB hb (by first | omega | (simp <;> omega)) ?_; (repeat (first | assumption | (with_reducible refine keepD ?_) | (with_reducible refine keepN ?_) | (with_reducible refine keepV ?_)))); have kc4 : w'.cell? ⟨w.heap.size, 4, none⟩ = some (.int .u64 c) := (by refine keepB hb (by first | omega | (simp <;> omega)) ?_; (repeat (first | assumption | (with_reducible refine keepD ?_) | (with_reducible refine keepN ?_) | (with_reducible refine keepV ?_)))); have kc5 : w'.cell? ⟨w.heap.size, 5, none⟩ = some (.string p) := (by refine keepB hb (by first | omega | (simp <;> omega)) ?_; (repeat (first | assumption | (with_reducible refine keepD ?_) | (with_reducible refine keepN ?_) | (with_reducible refine keepV ?_)))); have kd0 : w'.cell? ⟨w.heap.size + 1, 0, none⟩ = some (.int .u64 x) := (by refine keepB hb (by first | omega | (simp <;> omega)) ?_; (repeat (first | assumption | (with_reducible refine keepD ?_) | (with_reducible refine keepN ?_) | (with_reducible refine keepV ?_)))); have kd1 : w'.cell? ⟨w.heap.size + 1, 1, none⟩ = some (.int .u64 y) := (by refine keepB hb (by first | omega | (simp <;> omega)) ?_; (repeat (first | assumption | (with_reducible refine keepD ?_) | (with_reducible refine keepN ?_) | (with_reducible refine keepV ?_)))); have kd2 : w'.cell? ⟨w.heap.size + 1, 2, none⟩ = some (.int .u64 z) := (by refine keepB hb (by first | omega | (simp <;> omega)) ?_; (repeat (first | assumption | (with_reducible refine keepD ?_) | (with_reducible refine keepN ?_) | (with_reducible refine keepV ?_)))); have kd3 : w'.cell? ⟨w.heap.size + 1, 3, none⟩ = some (.string q) := (by refine keepB hb (by first | omega | (simp <;> omega)) ?_; (repeat (first | assumption | (with_reducible refine keepD ?_) | (with_reducible refine keepN ?_) | (with_reducible refine keepV ?_)))); have kd4 : w'.cell? ⟨w.heap.size + 1, 4, none⟩ = some (.string n) := (by refine keepB hb (by first | omega | (simp <;> omega)) ?_; (repeat (first | assumption | (with_reducible refine keepD ?_) | (with_reducible refine keepN ?_) | (with_reducible refine keepV ?_)))); have bk : Below w.heap.size w w' := Below.trans (by repeat (first | assumption | exact Below.refl _ _ | refine below_drewN ?_ _ | refine Below.drew ?_ | refine Below.alloc ?_ (by first | omega | (simp <;> omega)) _)) (hb.mono (by first | omega | (simp <;> omega))); have nk : w.heap.size + 2 ≤ w'.heap.size := (by have := hb.size; first | omega | (simp at this; omega)); have hlt := hv.lt) | (go_at_call 62; refine (version_any _ _ _ _ _ _).mono ?_; rintro e w' ⟨rfl, rfl⟩) | (go_at_call 72; refine (zzCheck_any _ kb x y z a b c q n _ p _ _ s dy md pd pre _ (verAt_last _ _ _ (by simp)) ((hv.alloc _).alloc _) (he.below (by repeat (first | assumption | exact Below.refl _ _ | refine below_drewN ?_ _ | refine Below.drew ?_ | refine Below.alloc ?_ (by first | omega | (simp <;> omega)) _))) (by first | omega | (simp <;> omega)) T hT).mono ?_; rintro e w' ⟨ev, rfl, hb⟩; have kc0 : w'.cell? ⟨w.heap.size, 0, none⟩ = some (.int .i64 o) := (by refine keepB hb (by first | omega | (simp <;> omega)) ?_; (repeat (first | assumption | (with_reducible refine keepD ?_) | (with_reducible refine keepN ?_) | (with_reducible refine keepV ?_)))); have kc1 : w'.cell? ⟨w.heap.size, 1, none⟩ = some (.int .i64 g) := (by refine keepB hb (by first | omega | (simp <;> omega)) ?_; (repeat (first | assumption | (with_reducible refine keepD ?_) | (with_reducible refine keepN ?_) | (with_reducible refine keepV ?_)))); have kc2 : w'.cell? ⟨w.heap.size, 2, none⟩ = some (.int .u64 a) := (by refine keepB hb (by first | omega | (simp <;> omega)) ?_; (repeat (first | assumption | (with_reducible refine keepD ?_) | (with_reducible refine keepN ?_) | (with_reducible refine keepV ?_)))); have kc3 : w'.cell? ⟨w.heap.size, 3, none⟩ = some (.int .u64 b) := (by refine keepB hb (by first | omega | (simp <;> omega)) ?_; (repeat (first | assumption | (with_reducible refine keepD ?_) | (with_reducible refine keepN ?_) | (with_reducible refine keepV ?_)))); have kc4 : w'.cell? ⟨w.heap.size, 4, none⟩ = some (.int .u64 c) := (by refine keepB hb (by first | omega | (simp <;> omega)) ?_; (repeat (first | assumption | (with_reducible refine keepD ?_) | (with_reducible refine keepN ?_) | (with_reducible refine keepV ?_)))); have kc5 : w'.cell? ⟨w.heap.size, 5, none⟩ = some (.string p) := (by refine keepB hb (by first | omega | (simp <;> omega)) ?_; (repeat (first | assumption | (with_reducible refine keepD ?_) | (with_reducible refine keepN ?_) | (with_reducible refine keepV ?_)))); have kd0 : w'.cell? ⟨w.heap.size + 1, 0, none⟩ = some (.int .u64 x) := (by refine keepB hb (by first | omega | (simp <;> omega)) ?_; (repeat (first | assumption | (with_reducible refine keepD ?_) | (with_reducible refine keepN ?_) | (with_reducible refine keepV ?_)))); have kd1 : w'.cell? ⟨w.heap.size + 1, 1, none⟩ = some (.int .u64 y) := (by refine keepB hb (by first | omega | (simp <;> omega)) ?_; (repeat (first | assumption | (with_reducible refine keepD ?_) | (with_reducible refine keepN ?_) | (with_reducible refine keepV ?_)))); have kd2 : w'.cell? ⟨w.heap.size + 1, 2, none⟩ = some (.int .u64 z) := (by refine keepB hb (by first | omega | (simp <;> omega)) ?_; (repeat (first | assumption | (with_reducible refine keepD ?_) | (with_reducible refine keepN ?_) | (with_reducible refine keepV ?_)))); have kd3 : w'.cell? ⟨w.heap.size + 1, 3, none⟩ = some (.string q) := (by refine keepB hb (by first | omega | (simp <;> omega)) ?_; (repeat (first | assumption | (with_reducible refine keepD ?_) | (with_reducible refine keepN ?_) | (with_reducible refine keepV ?_)))); have kd4 : w'.cell? ⟨w.heap.size + 1, 4, none⟩ = some (.string n) := (by refine keepB hb (by first | omega | (simp <;> omega)) ?_; (repeat (first | assumption | (with_reducible refine keepD ?_) | (with_reducible refine keepN ?_) | (with_reducible refine keepV ?_)))); have bk : Below w.heap.size w w' := Below.trans (by repeat (first | assumption | exact Below.refl _ _ | refine below_drewN ?_ _ | refine Below.drew ?_ | refine Below.alloc ?_ (by first | omega | (simp <;> omega)) _)) (hb.mono (by first | omega | (simp <;> omega))); have nk : w.heap.size + 2 ≤ w'.heap.size := (by have := hb.size; first | omega | (simp at this; omega))))
  go_wp2_with fail
  go_ret
  exact ⟨rfl, bk⟩
end Go.Proofs.YtdlpcfhhpjjjmaaDoor
