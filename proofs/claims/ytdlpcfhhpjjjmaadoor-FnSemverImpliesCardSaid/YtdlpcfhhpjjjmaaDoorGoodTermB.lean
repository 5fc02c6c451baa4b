/- spec.GoodTerm at three numbers. -/
import Derived.Test.YtdlpcfhhpjjjmaaDoorGoodTerm
namespace Go.Proofs.YtdlpcfhhpjjjmaaDoor
open Go.RowKit
set_option linter.unusedVariables false
set_option linter.unusedSimpArgs false

set_option maxRecDepth 100000 in
set_option maxHeartbeats 8000000 in
theorem goodTerm_3 (o a b c : Int) (p : ByteArray) (hp : p.size ≤ 2147483653) (w : World) :
    Calls Tryd.prog 31 #[.agg (termC o 3 a b c p)] w (GoodPost (TermOk o 3 a b c p) w) := by
  obtain ⟨b1, H1⟩ : ∃ b1, Hid (vpreB p = b1) := ⟨_, rfl⟩
  obtain ⟨b2, H2⟩ : ∃ b2, Hid (smallB p = b2) := ⟨_, rfl⟩
  cases b1 <;> cases b2
  all_goals
    go_enter Tryd.func31, Tryd.ntmps31
    go_wp2_with (first | (go_at_call 60; refine (validPre_any _ hp _).mono ?_; rintro e w1 ⟨rfl, hb1⟩; rw [H1.out]; have B1 := Below.trans (Below.alloc (Below.refl w.heap.size w) (Nat.le_refl _) _) (hb1.mono (by simp)); have k5 : w1.cell? ⟨w.heap.size, 5, none⟩ = some (.string p) := (hb1.cell (p := ⟨w.heap.size, 5, none⟩) (by simp)).trans (TermAt w _ _ rfl 5)) | (go_at_call 61; refine (smallPre_any _ hp _).mono ?_; rintro e w2 ⟨rfl, hb2⟩; rw [H2.out]; have B1 := Below.trans B1 (hb2.mono B1.size)))
    all_goals
      go_ret
      refine ⟨_, rfl, (by first | exact B1 | exact Below.alloc (Below.refl _ _) (Nat.le_refl _) _), fun h => ?_⟩
      first
      | exact absurd h (by decide)
      | (have E1 := H1.out; have E2 := H2.out; unfold TermOk; simp_all <;> omega)
end Go.Proofs.YtdlpcfhhpjjjmaaDoor
