/- Plain: of a release just one of <, = and > holds. -/
import Derived.Test.YtdlpcfhhpjjjmaaDoorTildeD
import Derived.Test.YtdlpcfhhpjjjmaaDoorConA
import Derived.Test.YtdlpcfhhpjjjmaaDoorConAbv
import Derived.Test.YtdlpcfhhpjjjmaaDoorConEqt
namespace Go.Proofs.YtdlpcfhhpjjjmaaDoor
set_option linter.unusedVariables false
set_option linter.unusedSimpArgs false

def emptyB : ByteArray := ⟨#[]⟩
/-- Three numbers compared. -/
def cmp3 (x y z a b c : Int) : Int := if segI x a ≠ 0 then segI x a else if segI y b ≠ 0 then segI y b else segI z c

theorem cmpI_bare (x y z a b c : Int) : cmpI x y z ⟨#[]⟩ a b c ⟨#[]⟩ = cmp3 x y z a b c := by
  unfold cmpI cmp3 preC
  have e0 : (⟨#[]⟩ : ByteArray).toList.isEmpty = true := by first | rfl | decide | simp
  rw [e0]
  by_cases h1 : segI x a = 0
  · by_cases h2 : segI y b = 0
    · by_cases h3 : segI z c = 0
      · simp [h1, h2, h3]
      · simp [h1, h2, h3]
    · simp [h1, h2]
  · simp [h1]

theorem seg_cases (x a : Int) : (x < a ∧ segI x a = -1) ∨ (x = a ∧ segI x a = 0) ∨ (a < x ∧ segI x a = 1) := by
  unfold segI
  by_cases h1 : x < a
  · exact .inl ⟨h1, by rw [if_pos h1]⟩
  · by_cases h2 : a < x
    · exact .inr (.inr ⟨h2, by rw [if_neg h1, if_pos h2]⟩)
    · exact .inr (.inl ⟨by omega, by rw [if_neg h1, if_neg h2]⟩)

/-- What <, = and > answer of a release. -/
def bLow (x y z a b c : Int) : Bool := decide (cmp3 x y z a b c < 0)
def bEq (dy md pd : Bool) (x y z a b c : Int) : Bool := equalV dy (tildeB true ⟨#[]⟩ ⟨#[]⟩ x y z a b c md pd) (cmp3 x y z a b c == 0)
def bUp (dy md pd : Bool) (x y z a b c : Int) : Bool := aboveV dy md pd (decide (a < x)) (decide (x < a)) (decide (b < y)) (cmp3 x y z a b c == 1)

theorem tilde_bare (x y z a b c : Int) (md pd : Bool) (h : md = true ∨ pd = true) : tildeB true ⟨#[]⟩ ⟨#[]⟩ x y z a b c md pd = (!decide (cmp3 x y z a b c < 0) && ((x == a) && ((y == b) || md))) := by
  unfold tildeB
  rw [cmpI_bare]
  have hz : ((a == 0) && ((b == 0) && ((c == 0) && (!md && !pd)))) = false := by
    rcases h with h | h <;> rw [h] <;> cases (a == 0) <;> cases (b == 0) <;> cases (c == 0) <;> first | rfl | (cases md <;> rfl)
  rw [hz]
  cases decide (cmp3 x y z a b c < 0) <;> simp

/-- Just one of three. -/
def oneOf (p q r : Bool) : Prop := (p = true ∧ q = false ∧ r = false) ∨ (p = false ∧ q = true ∧ r = false) ∨ (p = false ∧ q = false ∧ r = true)

theorem part_1 (x y z a : Int) (hy : 0 ≤ y) (hz : 0 ≤ z) : oneOf (bLow x y z a 0 0) (bEq true true false x y z a 0 0) (bUp true true false x y z a 0 0) := by
  unfold bLow bEq bUp equalV aboveV
  rw [tilde_bare _ _ _ _ _ _ _ _ (.inl rfl)]
  unfold cmp3 oneOf
  rcases seg_cases x a with ⟨h, e⟩ | ⟨h, e⟩ | ⟨h, e⟩ <;> rw [e]
  · left
    have h2 : ¬ a < x := by omega
    simp [h, h2]
  · right; left
    subst h
    rcases seg_cases y 0 with ⟨h, e⟩ | ⟨h, e⟩ | ⟨h, e⟩ <;> rw [e]
    · omega
    · rcases seg_cases z 0 with ⟨h, e⟩ | ⟨h, e⟩ | ⟨h, e⟩ <;> rw [e]
      · omega
      · simp
      · simp
    · simp
  · right; right
    have h2 : ¬ x = a := by omega
    simp [h, h2]

theorem part_2 (x y z a b : Int) (hz : 0 ≤ z) : oneOf (bLow x y z a b 0) (bEq true false true x y z a b 0) (bUp true false true x y z a b 0) := by
  unfold bLow bEq bUp equalV aboveV
  rw [tilde_bare _ _ _ _ _ _ _ _ (.inr rfl)]
  unfold cmp3 oneOf
  rcases seg_cases x a with ⟨h, e⟩ | ⟨h, e⟩ | ⟨h, e⟩ <;> rw [e]
  · left
    have h2 : ¬ a < x := by omega
    simp [h, h2]
  · subst h
    rcases seg_cases y b with ⟨h, e⟩ | ⟨h, e⟩ | ⟨h, e⟩ <;> rw [e]
    · left
      have h2 : ¬ b < y := by omega
      simp [h2]
    · right; left
      subst h
      rcases seg_cases z 0 with ⟨h, e⟩ | ⟨h, e⟩ | ⟨h, e⟩ <;> rw [e]
      · omega
      · simp
      · simp
    · right; right
      have h2 : ¬ y = b := by omega
      simp [h, h2]
  · right; right
    have h2 : ¬ x = a := by omega
    simp [h, h2]

theorem part_3 (x y z a b c : Int) : oneOf (bLow x y z a b c) (bEq false false false x y z a b c) (bUp false false false x y z a b c) := by
  unfold bLow bEq bUp equalV aboveV
  have h : cmp3 x y z a b c = -1 ∨ cmp3 x y z a b c = 0 ∨ cmp3 x y z a b c = 1 := by
    unfold cmp3
    rcases seg_cases x a with ⟨_, e⟩ | ⟨_, e⟩ | ⟨_, e⟩ <;> rcases seg_cases y b with ⟨_, f⟩ | ⟨_, f⟩ | ⟨_, f⟩ <;> rcases seg_cases z c with ⟨_, g⟩ | ⟨_, g⟩ | ⟨_, g⟩ <;> rw [e, f, g] <;> simp
  unfold oneOf
  rcases h with h | h | h <;> rw [h] <;> simp
end Go.Proofs.YtdlpcfhhpjjjmaaDoor
