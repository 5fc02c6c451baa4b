/- Plain: the code's comparison is the published one on good versions; what a tilde answers is what it says. -/
import Derived.Test.YtdlpcfhhpjjjmaaDoorWPre
import Derived.Test.YtdlpcfhhpjjjmaaDoorTildeD
import Derived.Test.YtdlpcfhhpjjjmaaDoorSpCmp
namespace Go.Proofs.YtdlpcfhhpjjjmaaDoor
set_option linter.unusedVariables false
set_option linter.unusedSimpArgs false

def okPre (p : ByteArray) : Prop := p.toList = [] ∨ (vpreB p = true ∧ smallB p = true)

theorem okPre_of_good (x y z : Int) (q n : ByteArray) (h : goodAll [(x, y, z, q, n)] = true) : okPre q := by
  unfold goodAll at h
  simp only [List.all_cons, List.all_nil, Bool.and_true] at h
  unfold okV goodB at h
  simp only [Bool.and_eq_true, Bool.or_eq_true] at h
  rcases h.2.1 with h1 | ⟨h1, h2⟩
  · exact .inl (by simpa using h1)
  · exact .inr ⟨h1, h2⟩

theorem pre_eq (s o : ByteArray) (hs : okPre s) (ho : okPre o) : preC s o = specPreF s o := by
  unfold preC specPreF
  cases h1 : s.toList.isEmpty with
  | true =>
    have e1 : s.toList = [] := by simpa using h1
    cases h2 : o.toList.isEmpty with
    | true =>
      have e2 : o.toList = [] := by simpa using h2
      rw [e1, e2]; simp
    | false =>
      have e3 : (s.toList == o.toList) = false := by
        rw [e1]
        cases h : o.toList with
        | nil => rw [h] at h2; simp at h2
        | cons => rfl
      rw [e3]; simp
  | false =>
    cases h2 : o.toList.isEmpty with
    | true =>
      have e2 : o.toList = [] := by simpa using h2
      have e3 : (s.toList == o.toList) = false := by
        rw [e2]
        cases h : s.toList with
        | nil => rw [h] at h1; simp at h1
        | cons => rfl
      rw [e3]; simp
    | false =>
      have hs' : vpreB s = true ∧ smallB s = true := by
        rcases hs with h | h
        · rw [h] at h1; simp at h1
        · exact h
      have ho' : vpreB o = true ∧ smallB o = true := by
        rcases ho with h | h
        · rw [h] at h2; simp at h2
        · exact h
      have e := pre_both s o hs'.1 hs'.2 ho'.1 ho'.2
      simp only [Bool.false_eq_true, if_false]
      cases h3 : (s.toList == o.toList) with
      | true =>
        simp only [if_true]
        rw [← e]; unfold specPreT; rw [h3]; rfl
      | false =>
        simp only [Bool.false_eq_true, if_false]
        exact e.symm

theorem cmp_eq (a b c x y z : Int) (p q : ByteArray) (hp : okPre p) (hq : okPre q) : cmpI a b c p x y z q = specCmp a b c p x y z q := by
  unfold cmpI specCmp numI
  rw [if_neg (show ¬ (3 : Int) ≤ 0 by omega), if_neg (show ¬ (3 : Int) ≤ 1 by omega), if_neg (show ¬ (3 : Int) ≤ 2 by omega)]
  by_cases h1 : segI a x = 0
  · rw [if_neg (by simp [h1]), if_pos h1]
    by_cases h2 : segI b y = 0
    · rw [if_neg (by simp [h2]), if_pos h2]
      by_cases h3 : segI c z = 0
      · rw [if_neg (by simp [h3]), if_pos h3]
        exact pre_eq p q hp hq
      · rw [if_pos (by simp [h3]), if_neg h3]
    · rw [if_pos (by simp [h2]), if_neg h2, if_neg h2]
  · rw [if_pos (by simp [h1]), if_neg h1, if_neg h1]

theorem seg_eq (a b : Int) : (segI a b = 0) ↔ a = b := by
  unfold segI
  by_cases h1 : a < b
  · rw [if_pos h1]; constructor <;> intro h <;> omega
  · rw [if_neg h1]
    by_cases h2 : b < a
    · rw [if_pos h2]; constructor <;> intro h <;> omega
    · rw [if_neg h2]; constructor <;> intro h <;> omega

theorem num_0eq (x y z a b c : Int) : (numI 0 x y z a b c == 0) = true := by unfold numI; rw [if_pos (by omega)]; rfl
theorem num_1eq (x y z a b c : Int) : (numI 1 x y z a b c == 0) = (x == a) := by
  unfold numI
  rw [if_neg (by omega), if_pos (show (1 : Int) ≤ 1 by omega)]
  by_cases h : segI x a = 0
  · rw [if_pos h]; have := (seg_eq x a).1 h; simp [this]
  · rw [if_neg h]
    have h2 : x ≠ a := fun e => h ((seg_eq x a).2 e)
    rw [beq_eq_false_iff_ne.2 h, beq_eq_false_iff_ne.2 h2]
theorem num_2eq (x y z a b c : Int) : (numI 2 x y z a b c == 0) = ((x == a) && (y == b)) := by
  unfold numI
  rw [if_neg (by omega), if_neg (show ¬ (2 : Int) ≤ 1 by omega), if_pos (show (2 : Int) ≤ 2 by omega)]
  by_cases h : segI x a = 0
  · rw [if_pos h]
    have e := (seg_eq x a).1 h
    by_cases h3 : segI y b = 0
    · rw [if_pos h3]; have := (seg_eq y b).1 h3; simp [this, e]
    · rw [if_neg h3]
      have h4 : y ≠ b := fun e => h3 ((seg_eq y b).2 e)
      rw [beq_eq_false_iff_ne.2 h3, beq_eq_false_iff_ne.2 h4, Bool.and_false]
  · rw [if_neg h]
    have h2 : x ≠ a := fun e => h ((seg_eq x a).2 e)
    rw [beq_eq_false_iff_ne.2 h, beq_eq_false_iff_ne.2 h2, Bool.false_and]

/-- What a tilde says. -/
def wantTilde (pre : Bool) (q p : ByteArray) (x y z a b c k : Int) : Bool := (pre || q.toList.isEmpty) && (decide (0 ≤ specCmp x y z q a b c p) && (numI k x y z a b c == 0))

theorem tilde_law (g a b c x y z k : Int) (p q : ByteArray) (pre md pd : Bool) (hp : okPre p) (hq : okPre q) (ht : TermOk 6 g a b c p) (hg : (g = 0 ∧ md = false ∧ pd = false ∧ k = 0) ∨ (g = 1 ∧ md = true ∧ pd = false ∧ k = 1) ∨ (g = 2 ∧ md = false ∧ pd = true ∧ k = 2) ∨ (g = 3 ∧ md = false ∧ pd = false ∧ k = 2)) :
    tildeB pre q p x y z a b c md pd = wantTilde pre q p x y z a b c k := by
  unfold tildeB wantTilde
  rw [cmp_eq x y z a b c q p hq hp]
  generalize specCmp x y z q a b c p = R
  generalize q.toList.isEmpty = e
  obtain ⟨-, -, -, -, -, h6, h7, h8, h9, -⟩ := ht
  have hR : decide (0 ≤ R) = !decide (R < 0) := by
    by_cases h : R < 0
    · rw [decide_eq_true h, decide_eq_false (by omega)]; rfl
    · rw [decide_eq_false h, decide_eq_true (by omega)]; rfl
  rw [hR]
  rcases hg with ⟨rfl, rfl, rfl, rfl⟩ | ⟨rfl, rfl, rfl, rfl⟩ | ⟨rfl, rfl, rfl, rfl⟩ | ⟨rfl, rfl, rfl, rfl⟩
  · rw [num_0eq]
    have ea := h9 (by omega)
    have eb := h8 (by omega)
    have ec := (h7 (by omega)).1
    subst ea; subst eb; subst ec
    cases e <;> cases pre <;> cases decide (R < 0) <;> rfl
  · rw [num_1eq]
    cases e <;> cases pre <;> cases decide (R < 0) <;> simp
  · rw [num_2eq]
    cases e <;> cases pre <;> cases decide (R < 0) <;> simp
  · rw [num_2eq]
    have hz : ((a == 0) && ((b == 0) && ((c == 0) && (!false && !false)))) = false := by
      cases ha : (a == 0) with
      | false => rfl
      | true =>
        cases hb : (b == 0) with
        | false => rfl
        | true =>
          cases hc : (c == 0) with
          | false => rfl
          | true => exact absurd ⟨rfl, rfl, beq_iff_eq.1 ha, beq_iff_eq.1 hb, beq_iff_eq.1 hc⟩ h6
    rw [hz]
    cases e <;> cases pre <;> cases decide (R < 0) <;> simp
#print axioms tilde_law
end Go.Proofs.YtdlpcfhhpjjjmaaDoor
