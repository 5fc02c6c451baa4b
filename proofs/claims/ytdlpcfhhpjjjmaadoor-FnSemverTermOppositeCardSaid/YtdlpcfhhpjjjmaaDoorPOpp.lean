/- Plain: of a release = and !=, > and <=, < and >= are opposites; of every version where the term has three numbers. -/
import Derived.Test.YtdlpcfhhpjjjmaaDoorPPart
import Derived.Test.YtdlpcfhhpjjjmaaDoorConNeqJ
import Derived.Test.YtdlpcfhhpjjjmaaDoorConMst
namespace Go.Proofs.YtdlpcfhhpjjjmaaDoor
set_option linter.unusedVariables false
set_option linter.unusedSimpArgs false

/-- Three pairs of opposites. -/
def opposite (A B C D E F : Bool) : Prop := (A != B) = true ∧ (C != D) = true ∧ (E != F) = true
theorem opp_out {A B C D E F : Bool} (h : opposite A B C D E F) : (A != B) = true ∧ (C != D) = true ∧ (E != F) = true := h

def aEq (dy md pd : Bool) (x y z a b c : Int) (q p : ByteArray) : Bool := equalV dy (tildeB true q p x y z a b c md pd) (cmpI x y z q a b c p == 0)
def aNe (dy md pd : Bool) (x y z a b c : Int) (q p : ByteArray) : Bool := notV dy md pd (decide (x = a)) (decide (y = b)) (decide (z = c)) (apart q p) (cmpI x y z q a b c p != 0)
def aUp (dy md pd : Bool) (x y z a b c : Int) (q p : ByteArray) : Bool := aboveV dy md pd (decide (a < x)) (decide (x < a)) (decide (b < y)) (cmpI x y z q a b c p == 1)
def aMo (dy md pd : Bool) (x y z a b c : Int) (q p : ByteArray) : Bool := mostV dy md (decide (a < x)) (decide (x < a)) (decide (b < y)) (decide (cmpI x y z q a b c p ≤ 0))
def aLo (x y z a b c : Int) (q p : ByteArray) : Bool := decide (cmpI x y z q a b c p < 0)
def aGe (x y z a b c : Int) (q p : ByteArray) : Bool := decide (0 ≤ cmpI x y z q a b c p)

theorem lo_ge (R : Int) : (decide (R < 0) != decide (0 ≤ R)) = true := by
  by_cases h : R < 0
  · rw [decide_eq_true h, decide_eq_false (by omega)]; rfl
  · rw [decide_eq_false h, decide_eq_true (by omega)]; rfl

theorem opp_3 (x y z a b c : Int) (q p : ByteArray) (hR : cmpI x y z q a b c p = -1 ∨ cmpI x y z q a b c p = 0 ∨ cmpI x y z q a b c p = 1) :
    opposite (aEq false false false x y z a b c q p) (aNe false false false x y z a b c q p) (aUp false false false x y z a b c q p) (aMo false false false x y z a b c q p) (aLo x y z a b c q p) (aGe x y z a b c q p) := by
  unfold opposite aEq aNe aUp aMo aLo aGe equalV notV aboveV mostV
  generalize cmpI x y z q a b c p = R at hR ⊢
  refine ⟨?_, ?_, ?_⟩ <;> rcases hR with h | h | h <;> subst h <;> rfl

theorem apart_bare : apart ⟨#[]⟩ ⟨#[]⟩ = false := by
  unfold apart
  have e0 : (⟨#[]⟩ : ByteArray).toList.isEmpty = true := by first | rfl | decide | simp
  rw [e0]; rfl

theorem opp_1 (x y z a : Int) (hy : 0 ≤ y) (hz : 0 ≤ z) :
    opposite (aEq true true false x y z a 0 0 ⟨#[]⟩ ⟨#[]⟩) (aNe true true false x y z a 0 0 ⟨#[]⟩ ⟨#[]⟩) (aUp true true false x y z a 0 0 ⟨#[]⟩ ⟨#[]⟩) (aMo true true false x y z a 0 0 ⟨#[]⟩ ⟨#[]⟩) (aLo x y z a 0 0 ⟨#[]⟩ ⟨#[]⟩) (aGe x y z a 0 0 ⟨#[]⟩ ⟨#[]⟩) := by
  unfold opposite aEq aNe aUp aMo aLo aGe equalV notV aboveV mostV
  refine ⟨?_, ?_, lo_ge _⟩
  · rw [tilde_bare _ _ _ _ _ _ _ _ (.inl rfl)]
    unfold cmp3
    rcases seg_cases x a with ⟨h, e⟩ | ⟨h, e⟩ | ⟨h, e⟩ <;> rw [e]
    · have h2 : ¬ x = a := by omega
      simp [h2]
    · subst h
      rcases seg_cases y 0 with ⟨h, e⟩ | ⟨h, e⟩ | ⟨h, e⟩ <;> rw [e]
      · omega
      · rcases seg_cases z 0 with ⟨h, e⟩ | ⟨h, e⟩ | ⟨h, e⟩ <;> rw [e]
        · omega
        · simp
        · simp
      · simp
    · have h2 : ¬ x = a := by omega
      simp [h2]
  · by_cases h1 : a < x
    · simp [h1]
    · by_cases h2 : x < a
      · simp [h1, h2]
      · simp [h1, h2]

theorem opp_2 (x y z a b : Int) (hz : 0 ≤ z) :
    opposite (aEq true false true x y z a b 0 ⟨#[]⟩ ⟨#[]⟩) (aNe true false true x y z a b 0 ⟨#[]⟩ ⟨#[]⟩) (aUp true false true x y z a b 0 ⟨#[]⟩ ⟨#[]⟩) (aMo true false true x y z a b 0 ⟨#[]⟩ ⟨#[]⟩) (aLo x y z a b 0 ⟨#[]⟩ ⟨#[]⟩) (aGe x y z a b 0 ⟨#[]⟩ ⟨#[]⟩) := by
  unfold opposite aEq aNe aUp aMo aLo aGe equalV notV aboveV mostV
  rw [apart_bare]
  refine ⟨?_, ?_, lo_ge _⟩
  · rw [tilde_bare _ _ _ _ _ _ _ _ (.inr rfl)]
    unfold cmp3
    rcases seg_cases x a with ⟨h, e⟩ | ⟨h, e⟩ | ⟨h, e⟩ <;> rw [e]
    · have h2 : ¬ x = a := by omega
      simp [h2]
    · subst h
      rcases seg_cases y b with ⟨h, e⟩ | ⟨h, e⟩ | ⟨h, e⟩ <;> rw [e]
      · have h2 : ¬ y = b := by omega
        simp [h2]
      · subst h
        rcases seg_cases z 0 with ⟨h, e⟩ | ⟨h, e⟩ | ⟨h, e⟩ <;> rw [e]
        · omega
        · simp
        · simp
      · have h2 : ¬ y = b := by omega
        simp [h2]
    · have h2 : ¬ x = a := by omega
      simp [h2]
  · by_cases h1 : a < x
    · simp [h1]
    · by_cases h2 : x < a
      · simp [h1, h2]
      · by_cases h3 : b < y
        · simp [h1, h2, h3]
        · simp [h1, h2, h3]

theorem partI_cases (s o : ByteArray) : partI s o = -1 ∨ partI s o = 0 ∨ partI s o = 1 := by
  have hc : ∀ b : Bool, cmpNum b = -1 ∨ cmpNum b = 0 ∨ cmpNum b = 1 := fun b => by cases b <;> simp [cmpNum]
  unfold partI
  split
  · simp
  · split
    · simp
    · split
      · simp
      · split
        · exact hc _
        · simp
        · simp
        · exact hc _
theorem partsAt_cases (A B : List ByteArray) (n : Nat) : ∀ i, partsAt A B n i = -1 ∨ partsAt A B n i = 0 ∨ partsAt A B n i = 1 := by
  induction n with
  | zero => intro i; unfold partsAt; simp
  | succ n ih =>
    intro i
    unfold partsAt
    split
    · exact ih _
    · exact partI_cases _ _
theorem preI_cases (s o : ByteArray) : preI s o = -1 ∨ preI s o = 0 ∨ preI s o = 1 := partsAt_cases _ _ _ _
theorem preC_cases (p q : ByteArray) : preC p q = -1 ∨ preC p q = 0 ∨ preC p q = 1 := by
  unfold preC
  have hp : ∀ s o : ByteArray, preI s o = -1 ∨ preI s o = 0 ∨ preI s o = 1 := preI_cases
  split
  · split <;> simp
  · split
    · simp
    · exact hp _ _
theorem cmpI_cases (x y z a b c : Int) (q p : ByteArray) : cmpI x y z q a b c p = -1 ∨ cmpI x y z q a b c p = 0 ∨ cmpI x y z q a b c p = 1 := by
  have hs : ∀ u v : Int, segI u v = -1 ∨ segI u v = 0 ∨ segI u v = 1 := fun u v => by unfold segI; split <;> (try split) <;> simp
  unfold cmpI
  split
  · exact hs _ _
  · split
    · exact hs _ _
    · split
      · exact hs _ _
      · exact preC_cases _ _
end Go.Proofs.YtdlpcfhhpjjjmaaDoor
