/- The words of a text: plain. -/
import Derived.Test.YtkhggefbkhdimaaGreatDoorFdL
namespace Go.Proofs.YtkhggefbkhdimaaGreatDoor
set_option linter.unusedVariables false

def blankB (c : UInt8) : Bool := decide (c.toNat = 32) || (decide (9 ≤ c.toNat) && decide (c.toNat ≤ 13))
/-- The longest pieces without a blank, cur ahead of the first. -/
def wordsA : List UInt8 → List UInt8 → List (List UInt8)
  | cur, [] => if cur = [] then [] else [cur]
  | cur, c :: r => if blankB c = true then (if cur = [] then wordsA [] r else cur :: wordsA [] r) else wordsA (cur ++ [c]) r
def wordsL (l : List UInt8) : List (List UInt8) := wordsA [] l
def wordsB (s : ByteArray) : List ByteArray := (wordsL s.data.toList).map mkB
theorem words_blank_e (c : UInt8) (r : List UInt8) (h : blankB c = true) : wordsA [] (c :: r) = wordsA [] r := by
  rw [wordsA, if_pos h, if_pos rfl]
theorem words_blank (cur : List UInt8) (c : UInt8) (r : List UInt8) (hc : cur ≠ []) (h : blankB c = true) : wordsA cur (c :: r) = cur :: wordsA [] r := by
  rw [wordsA, if_pos h, if_neg hc]
theorem words_other (cur : List UInt8) (c : UInt8) (r : List UInt8) (h : blankB c = false) : wordsA cur (c :: r) = wordsA (cur ++ [c]) r := by
  rw [wordsA, if_neg (by rw [h]; decide)]
theorem words_more (w : List UInt8) (hw : ∀ c ∈ w, blankB c = false) : ∀ (l cur r : List UInt8), l = w ++ r → wordsA cur l = wordsA (cur ++ w) r := by
  induction w with
  | nil => intro l cur r h; rw [h]; simp
  | cons c w ih =>
    intro l cur r h
    rw [h, List.cons_append, words_other _ _ _ (hw c (by simp)), ih (fun x hx => hw x (by simp [hx])) _ _ r rfl]
    simp
/-- A blank and a star behind a text are a word behind its words. -/
theorem words_star : ∀ (l cur : List UInt8), wordsA cur (l ++ [32, 42]) = wordsA cur l ++ [[42]]
  | [], cur => by
    have h42 : wordsA [] [42] = [[42]] := by decide
    by_cases hc : cur = []
    · subst hc; decide
    · show wordsA cur (32 :: [42]) = _
      rw [words_blank cur 32 [42] hc (by decide), h42, wordsA, if_neg hc]
      rfl
  | c :: r, cur => by
    rw [List.cons_append]
    by_cases hb : blankB c = true
    · by_cases hc : cur = []
      · subst hc
        rw [words_blank_e c _ hb, words_blank_e c r hb, words_star r []]
      · rw [words_blank cur c _ hc hb, words_blank cur c r hc hb, words_star r []]
        rfl
    · have hb2 : blankB c = false := by simpa using hb
      rw [words_other _ _ _ hb2, words_other _ _ _ hb2, words_star r _]
/-- A part of a text. -/
def partL (s : ByteArray) (f k : Nat) : List UInt8 := (s.data.toList.drop f).take (k - f)
theorem part_snoc (s : ByteArray) (f k : Nat) (hf : f ≤ k) (hk : k < s.size) : partL s f (k + 1) = partL s f k ++ [s[k]] := by
  unfold partL
  have hl : k - f < (s.data.toList.drop f).length := by rw [List.length_drop, str_len]; omega
  rw [show k + 1 - f = (k - f) + 1 by omega, List.take_add_one, List.getElem?_eq_getElem hl, Option.toList_some, List.getElem_drop, str_get]
  congr 2
  congr 1
  omega
theorem part_ne (s : ByteArray) (f k : Nat) (hf : f < k) (hk : k ≤ s.size) : partL s f k ≠ [] := by
  intro h
  have := congrArg List.length h
  unfold partL at this
  rw [List.length_take, List.length_drop, str_len] at this
  simp only [List.length_nil] at this
  omega
theorem part_mk (s : ByteArray) (f k : Nat) : s.extract f k = mkB (partL s f k) := bytes_ext (by rw [data_ext, mkB_data]; rfl)
theorem part_end (s : ByteArray) (f : Nat) : partL s f s.size = s.data.toList.drop f := by
  unfold partL
  rw [List.take_of_length_le (by rw [List.length_drop, str_len]; exact Nat.le_refl _)]
theorem drop_at (s : ByteArray) (k : Nat) (hk : k < s.size) : s.data.toList.drop k = s[k] :: s.data.toList.drop (k + 1) := by
  rw [List.drop_eq_getElem_cons (by rw [str_len]; exact hk), str_get]
theorem wordsL_len (l : List UInt8) : ∀ cur : List UInt8, (wordsA cur l).length ≤ l.length + 1 := by
  induction l with
  | nil => intro cur; unfold wordsA; split <;> simp
  | cons c r ih =>
    intro cur
    unfold wordsA
    split
    · split
      · have := ih []; simp only [List.length_cons]; omega
      · have := ih []; simp only [List.length_cons]; omega
    · have := ih (cur ++ [c]); simp only [List.length_cons]; omega
theorem words_mem (l : List UInt8) : ∀ cur p, p ∈ wordsA cur l → p ≠ [] ∧ p.length ≤ cur.length + l.length := by
  induction l with
  | nil =>
    intro cur p h
    unfold wordsA at h
    split at h
    · cases h
    · rw [List.mem_singleton] at h
      subst h
      exact ⟨by assumption, by simp⟩
  | cons c r ih =>
    intro cur p h
    unfold wordsA at h
    split at h
    · split at h
      · have := ih [] p h
        simp only [List.length_nil, List.length_cons] at this ⊢
        exact ⟨this.1, by omega⟩
      · rcases List.mem_cons.1 h with rfl | h
        · exact ⟨by assumption, by simp⟩
        · have := ih [] p h
          simp only [List.length_nil, List.length_cons] at this ⊢
          exact ⟨this.1, by omega⟩
    · have := ih (cur ++ [c]) p h
      simp only [List.length_append, List.length_cons, List.length_nil] at this ⊢
      exact ⟨this.1, by omega⟩
end Go.Proofs.YtkhggefbkhdimaaGreatDoor
