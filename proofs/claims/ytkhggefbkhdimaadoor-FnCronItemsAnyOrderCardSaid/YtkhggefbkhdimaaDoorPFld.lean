/- strings.FieldsFunc at commas: the pieces of a text between commas that are not empty. Plain. -/
import Derived.Test.YtkhggefbkhdimaaDoorPCut
import Derived.Lib.FieldsP
namespace Go.Proofs.YtkhggefbkhdimaaDoor
open Go.Lib
set_option linter.unusedVariables false

theorem decN_comma (n b0 b1 b2 b3 : Nat) : (decodeN n b0 b1 b2 b3).1 = 44 → b0 = 44 ∧ (decodeN n b0 b1 b2 b3).2 = 1 := by
  unfold decodeN
  repeat' split
  all_goals (dsimp only; intro h; omega)
theorem decN_other (n b0 b1 b2 b3 : Nat) : (decodeN n b0 b1 b2 b3).1 ≠ 44 → b0 ≠ 44 ∧ (1 < (decodeN n b0 b1 b2 b3).2 → b1 ≠ 44) ∧ (2 < (decodeN n b0 b1 b2 b3).2 → b2 ≠ 44) ∧ (3 < (decodeN n b0 b1 b2 b3).2 → b3 ≠ 44) ∧ (decodeN n b0 b1 b2 b3).2 ≤ 4 := by
  unfold decodeN
  repeat' split
  all_goals (dsimp only; intro h; omega)

/-- The pieces between commas that are not empty, cur ahead of the first. -/
def gfl (cur l : List UInt8) : List (List UInt8) := match cutL 44 l with
  | [] => []
  | y :: ys => ((cur ++ y) :: ys).filter (fun z => !z.isEmpty)
theorem gfl_nil (cur : List UInt8) : gfl cur [] = if cur = [] then [] else [cur] := by
  unfold gfl
  cases cur <;> simp [cutL]
theorem gfl_comma (cur : List UInt8) (x : UInt8) (xs : List UInt8) (h : x.toNat = 44) : gfl cur (x :: xs) = (if cur = [] then [] else [cur]) ++ gfl [] xs := by
  have e : cutL 44 (x :: xs) = [] :: cutL 44 xs := by
    unfold cutL
    rw [h]
    cases xs <;> simp [cutL]
  unfold gfl
  rw [e]
  cases hc : cutL 44 xs with
  | nil => exact absurd hc (cutL_ne _ _)
  | cons y ys => cases cur <;> simp
theorem gfl_one (cur : List UInt8) (x : UInt8) (xs : List UInt8) (h : x.toNat ≠ 44) : gfl cur (x :: xs) = gfl (cur ++ [x]) xs := by
  have hx : ((x.toNat : Int) == 44) = false := by simp only [beq_eq_false_iff_ne]; omega
  unfold gfl
  rw [cutL, hx]
  cases hc : cutL 44 xs with
  | nil => exact absurd hc (cutL_ne _ _)
  | cons y ys => simp
theorem gfl_app : ∀ (b cur xs : List UInt8), (∀ x ∈ b, x.toNat ≠ 44) → gfl cur (b ++ xs) = gfl (cur ++ b) xs
  | [], cur, xs, _ => by simp
  | x :: b, cur, xs, h => by
    rw [List.cons_append, gfl_one _ _ _ (h x (by simp)), gfl_app b _ _ (fun y hy => h y (by simp [hy]))]
    simp
theorem get_at (s : ByteArray) (i : Nat) (h : i < s.size) : s.data.toList[i]? = some (s.get! i) := by
  obtain ⟨⟨l⟩⟩ := s
  have h' : i < l.length := h
  show l[i]? = some (ByteArray.get! ⟨⟨l⟩⟩ i)
  rw [List.getElem?_eq_getElem h']
  unfold ByteArray.get!
  simp [h']
theorem take_other (s : ByteArray) (pos : Nat) (hp : pos < s.size) (h : (Utf8.decode s pos).1 ≠ 44) (hw : pos + (Utf8.decode s pos).2 ≤ s.size) : ∀ x ∈ (s.data.toList.drop pos).take (Utf8.decode s pos).2, x.toNat ≠ 44 := by
  rw [decode_at] at h hw ⊢
  have hd := decN_other _ _ _ _ _ h
  generalize (decodeN (s.size - pos) (s.get! pos).toNat (s.get! (pos + 1)).toNat (s.get! (pos + 2)).toNat (s.get! (pos + 3)).toNat).2 = k at hd hw ⊢
  intro x hx
  obtain ⟨j, hj⟩ := List.getElem?_of_mem hx
  have hjk : j < k := by
    rcases Nat.lt_or_ge j k with c | c
    · exact c
    · rw [List.getElem?_take, if_neg (by omega)] at hj; cases hj
  rw [List.getElem?_take, if_pos hjk, List.getElem?_drop, get_at s (pos + j) (by omega)] at hj
  have e := Option.some.inj hj
  subst e
  have : j = 0 ∨ j = 1 ∨ j = 2 ∨ j = 3 := by omega
  rcases this with rfl | rfl | rfl | rfl
  · exact hd.1
  · exact hd.2.1 (by omega)
  · exact hd.2.2.1 (by omega)
  · exact hd.2.2.2.1 (by omega)

theorem gfl_spans (s : ByteArray) : ∀ (f pos : Nat) (st : Option Nat) (acc : List (Nat × Nat)), s.size ≤ pos + f → pos ≤ s.size → (∀ a, st = some a → a < pos) →
    acc.map (fun p => pieceU s.data.toList p.1 p.2) ++ gfl (openPiece s.data.toList st pos) (s.data.toList.drop pos) = (closeSpans s (spansFromP (fun r => r == 44) s f pos st acc)).map (fun p => pieceU s.data.toList p.1 p.2)
  | 0, pos, st, acc, h, hp, hst => by
    obtain rfl : pos = s.size := by omega
    have hd : s.data.toList.drop s.size = [] := List.drop_eq_nil_of_le (by rw [← size_eq]; exact Nat.le_refl _)
    rw [hd, gfl_nil]
    cases st with
    | none => simp [spansFromP, closeSpans, openPiece]
    | some a =>
      have := pieceU_ne s.data.toList a s.size (hst a rfl) (by rw [← size_eq]; exact Nat.le_refl _)
      simp [spansFromP, closeSpans, openPiece, this]
  | f + 1, pos, st, acc, h, hp, hst => by
    by_cases hlt : pos < s.size
    · have hw := width_pos s pos
      have hwn : pos + (Utf8.decode s pos).2 ≤ s.size := by
        have := decodeN_le_n' (s.size - pos) (s.get! pos).toNat (s.get! (pos + 1)).toNat (s.get! (pos + 2)).toNat (s.get! (pos + 3)).toNat (by omega)
        rw [← decode_at] at this
        omega
      simp only [spansFromP, if_pos hlt]
      by_cases hsp : (Utf8.decode s pos).1 = 44
      · have hc := decN_comma _ _ _ _ _ (by rw [← decode_at]; exact hsp)
        rw [← decode_at] at hc
        have hdr : s.data.toList.drop pos = s.get! pos :: s.data.toList.drop (pos + 1) := by
          have hg := get_at s pos hlt
          have hl := (List.getElem?_eq_some_iff.1 hg).1
          rw [List.drop_eq_getElem_cons hl]
          have := (List.getElem?_eq_some_iff.1 hg).2
          rw [this]
        rw [hdr, gfl_comma _ _ _ hc.1, hc.2]
        simp only [hsp, beq_self_eq_true, if_true]
        cases st with
        | none =>
          have ih := gfl_spans s f (pos + 1) none acc (by omega) (by omega) (fun a h => by cases h)
          simpa [openPiece] using ih
        | some a =>
          have hpn := pieceU_ne s.data.toList a pos (hst a rfl) (by rw [← size_eq]; omega)
          have ih := gfl_spans s f (pos + 1) none (acc ++ [(a, pos)]) (by omega) (by omega) (fun a h => by cases h)
          simpa [openPiece, hpn] using ih
      · have hto := take_other s pos hlt hsp hwn
        have hsb : ((Utf8.decode s pos).1 == 44) = false := by simpa using hsp
        have hsplit : s.data.toList.drop pos = (s.data.toList.drop pos).take (Utf8.decode s pos).2 ++ s.data.toList.drop (pos + (Utf8.decode s pos).2) := by
          rw [← List.drop_drop]
          exact (List.take_append_drop _ _).symm
        rw [hsplit, gfl_app _ _ _ hto]
        simp only [hsb, Bool.false_eq_true, if_false]
        cases st with
        | none =>
          have ih := gfl_spans s f (pos + (Utf8.decode s pos).2) (some pos) acc (by omega) hwn (fun a h => by cases h; omega)
          have e : ([] : List UInt8) ++ (s.data.toList.drop pos).take (Utf8.decode s pos).2 = pieceU s.data.toList pos (pos + (Utf8.decode s pos).2) := by
            unfold pieceU
            rw [List.nil_append, Nat.add_sub_cancel_left]
          simp only [openPiece] at ih ⊢
          rw [e]
          exact ih
        | some a =>
          have ih := gfl_spans s f (pos + (Utf8.decode s pos).2) (some a) acc (by omega) hwn (fun b h => by cases h; have := hst a rfl; omega)
          simp only [openPiece] at ih ⊢
          rw [pieceU_grow _ _ _ _ (Nat.le_of_lt (hst a rfl))]
          exact ih
    · obtain rfl : pos = s.size := by omega
      have hd : s.data.toList.drop s.size = [] := List.drop_eq_nil_of_le (by rw [← size_eq]; exact Nat.le_refl _)
      rw [hd, gfl_nil, spansFromP_end _ s _ _ _ _ hlt]
      cases st with
      | none => simp [closeSpans, openPiece]
      | some a =>
        have := pieceU_ne s.data.toList a s.size (hst a rfl) (by rw [← size_eq]; exact Nat.le_refl _)
        simp [closeSpans, openPiece, this]

/-- strings.FieldsFunc at commas. -/
theorem fields_comma (s : ByteArray) : goFieldsP (fun r => r == 44) s = (cutB 44 s).filter (fun z => !z.data.toList.isEmpty) := by
  have h := gfl_spans s s.size 0 none [] (by omega) (by omega) (fun a h => by cases h)
  have e1 : gfl [] s.data.toList = (cutL 44 s.data.toList).filter (fun z => !z.isEmpty) := by
    unfold gfl
    cases hc : cutL 44 s.data.toList with
    | nil => exact absurd hc (cutL_ne _ _)
    | cons y ys => simp
  simp only [List.map_nil, List.nil_append, openPiece, List.drop_zero] at h
  rw [e1] at h
  have inj : ∀ x : ByteArray, (⟨x.data.toList.toArray⟩ : ByteArray) = x := fun x => by obtain ⟨⟨l⟩⟩ := x; rfl
  have h2 : (goFieldsP (fun r => r == 44) s).map (·.data.toList) = (cutL 44 s.data.toList).filter (fun z => !z.isEmpty) := by
    rw [h]
    unfold goFieldsP spansOfP
    rw [List.map_map]
    refine List.map_congr_left (fun p _ => ?_)
    simp only [Function.comp_apply, extract_data, pieceU]
  have h3 := congrArg (List.map (fun l : List UInt8 => (⟨l.toArray⟩ : ByteArray))) h2
  rw [List.map_map] at h3
  have h4 : List.map ((fun l : List UInt8 => (⟨l.toArray⟩ : ByteArray)) ∘ fun x => x.data.toList) (goFieldsP (fun r => r == 44) s) = goFieldsP (fun r => r == 44) s := by
    conv => rhs; rw [← List.map_id (goFieldsP (fun r => r == 44) s)]
    exact List.map_congr_left (fun x _ => inj x)
  rw [h4] at h3
  rw [h3]
  unfold cutB
  rw [List.filter_map]
  rfl
end Go.Proofs.YtkhggefbkhdimaaDoor
