/- Plain: a version against itself, a tilde against its window. -/
import Derived.Test.YtdlpcfhhpjjjmaaDoorWPreInv
import Derived.Test.YtdlpcfhhpjjjmaaDoorWPre
import Derived.Test.YtdlpcfhhpjjjmaaDoorTildeD
import Derived.Test.YtdlpcfhhpjjjmaaDoorConA
import Derived.Test.YtdlpcfhhpjjjmaaDoorGoodTerm
namespace Go.Proofs.YtdlpcfhhpjjjmaaDoor
open Go.RowKit
set_option linter.unusedVariables false
set_option linter.unusedSimpArgs false

theorem cmpI_self (a b c : Int) (p : ByteArray) : cmpI a b c p a b c p = 0 := by
  unfold cmpI preC
  rw [segI_same, segI_same, segI_same]
  cases h : p.toList.isEmpty with
  | true => rfl
  | false => exact partsAt_id _ _ _
theorem tilde_own (a b c : Int) (p : ByteArray) (md pd : Bool) : tildeB true p p a b c a b c md pd = true := by
  unfold tildeB
  rw [cmpI_self]
  simp
theorem least_open (e B : Bool) : shutB e true B = B := by cases e <;> rfl
theorem dec_split (R : Int) : decide (0 ≤ R) = !decide (R < 0) := by
  by_cases h : R < 0
  · rw [decide_eq_true h, decide_eq_false (by omega)]; rfl
  · rw [decide_eq_false h, decide_eq_true (by omega)]; rfl
theorem tilde_same (g a b c x y z : Int) (p q : ByteArray) (hx : (x == a) = true) (hy : (y == b) = true) :
    tildeB true q p x y z a b c (decide (g = 1)) (decide (g = 2)) = decide (0 ≤ cmpI x y z q a b c p) := by
  unfold tildeB
  generalize cmpI x y z q a b c p = R
  rw [dec_split R, hx, hy]
  cases decide (R < 0) <;> simp
theorem tilde_other (g a b c x y z : Int) (p q : ByteArray) (hg : g = 2 ∨ g = 3) (ht : TermOk 6 g a b c p) (h : ((x == a) && (y == b)) = false) :
    tildeB true q p x y z a b c (decide (g = 1)) (decide (g = 2)) = false := by
  obtain ⟨-, -, -, -, -, h6, -, -, -, -⟩ := ht
  unfold tildeB
  generalize cmpI x y z q a b c p = R
  rcases hg with rfl | rfl
  · have e1 : decide ((2 : Int) = 1) = false := by decide
    have e2 : decide ((2 : Int) = 2) = true := by decide
    rw [e1, e2, Bool.or_false, h]
    cases decide (R < 0) <;> simp
  · have e1 : decide ((3 : Int) = 1) = false := by decide
    have e2 : decide ((3 : Int) = 2) = false := by decide
    rw [e1, e2, Bool.or_false, h]
    have hz : ((a == 0) && ((b == 0) && ((c == 0) && (!false && !false)))) = false := by
      cases ha : (a == 0) with
      | false => rfl
      | true =>
        cases hb : (b == 0) with
        | false => rfl
        | true =>
          cases hc : (c == 0) with
          | false => rfl
          | true => exact absurd ⟨rfl, rfl, beq_iff_eq.1 ha, beq_iff_eq.1 hb, beq_iff_eq.1 hc⟩ h6
    rw [hz]
    cases decide (R < 0) <;> simp

end Go.Proofs.YtdlpcfhhpjjjmaaDoor
