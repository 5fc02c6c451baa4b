/- A text parted at each byte c. Numerals: spec.CronNumber and cron.mustParseInt, plain. strings.FieldsFunc at commas: the pieces of a text between commas that are not empty. Plain. One item of a cron field: spec.CronItem and cron.getRange, plain. A value of a cron field (names and numerals), and a field's list of items: plain. Items in another order, and items written twice, mean the same: plain. The bits of a union of items: plain. -/
import Derived.Test.YtkhggefbkhdimaaGreatDoorPStr
import Derived.Lib.AtoiAll
import Derived.Lib.FieldsP
import Derived.Test.YtkhggefbkhdimaaGreatDoorPBits
namespace Go.Proofs.YtkhggefbkhdimaaGreatDoor

/-- The pieces of a text between the bytes c. -/
def cutL (c : Int) : List UInt8 → List (List UInt8)
  | [] => [[]]
  | x :: xs => if ((x.toNat : Int) == c) then [] :: cutL c xs else
    match cutL c xs with
    | [] => [[x]]
    | y :: ys => (x :: y) :: ys

theorem cutL_ne (c : Int) (l : List UInt8) : cutL c l ≠ [] := by
  cases l with
  | nil => simp [cutL]
  | cons x xs =>
    unfold cutL
    split
    · simp
    · split <;> simp

theorem cutL_none (c : Int) (l : List UInt8) (h : fstIx l c = l.length) : cutL c l = [l] := by
  induction l with
  | nil => rfl
  | cons x xs ih =>
    unfold fstIx at h
    rw [List.findIdx_cons] at h
    cases hx : ((x.toNat : Int) == c) with
    | true => rw [hx] at h; simp at h
    | false =>
      rw [hx] at h
      have h' : fstIx xs c = xs.length := by unfold fstIx; simpa using h
      unfold cutL
      rw [hx, ih h']
      simp

theorem cutL_at (c : Int) (l : List UInt8) (h : fstIx l c < l.length) : cutL c l = l.take (fstIx l c) :: cutL c (l.drop (fstIx l c + 1)) := by
  induction l with
  | nil => simp at h
  | cons x xs ih =>
    cases hx : ((x.toNat : Int) == c) with
    | true =>
      have e : fstIx (x :: xs) c = 0 := by unfold fstIx; rw [List.findIdx_cons, hx]; rfl
      rw [e]
      unfold cutL
      rw [hx]
      simp
      cases xs <;> simp [cutL]
    | false =>
      have e : fstIx (x :: xs) c = fstIx xs c + 1 := by unfold fstIx; rw [List.findIdx_cons, hx]; rfl
      rw [e] at h ⊢
      have h' : fstIx xs c < xs.length := by simpa using h
      rw [show cutL c (x :: xs) = (match cutL c xs with | [] => [[x]] | y :: ys => (x :: y) :: ys) from by rw [cutL, hx]; rfl]
      rw [ih h']
      simp

def cutB (c : Int) (s : ByteArray) : List ByteArray := (cutL c s.data.toList).map fun l => ⟨l.toArray⟩

theorem cutB_none (c : Int) (s : ByteArray) (h : fstInt s.data.toList c < 0) : cutB c s = [s] := by
  unfold cutB
  rw [cutL_none c _ (fstIx_none _ _ h)]
  simp

theorem fstInt_ix (l : List UInt8) (c : Int) (k : Nat) (h : fstInt l c = k) : fstIx l c = k ∧ k < l.length := by
  unfold fstInt at h
  split at h
  · exact ⟨by omega, by omega⟩
  · omega

theorem cutB_at (c : Int) (s : ByteArray) (k : Nat) (h : fstInt s.data.toList c = k) : cutB c s = s.extract 0 k :: cutB c (s.extract (k + 1) s.size) ∧ k < s.size := by
  obtain ⟨h1, h2⟩ := fstInt_ix _ _ _ h
  have hk : k < s.size := by rw [← str_len]; exact h2
  refine ⟨?_, hk⟩
  unfold cutB
  rw [cutL_at c _ (by rw [h1]; exact h2), h1, List.map_cons]
  congr 1
  · exact bytes_ext (by rw [data_ext]; simp)
  · congr 2
    rw [data_ext, List.take_of_length_le]
    rw [List.length_drop, str_len]; omega

theorem cutB_ne (c : Int) (s : ByteArray) : cutB c s ≠ [] := by
  unfold cutB; simpa using cutL_ne c _

theorem cutB_len (c : Int) (s : ByteArray) : (cutB c s).length ≤ s.size + 1 := by
  unfold cutB
  rw [List.length_map, ← str_len]
  generalize s.data.toList = l
  induction l with
  | nil => simp [cutL]
  | cons x xs ih =>
    unfold cutL
    split
    · simp; omega
    · split
      · simp
      · rename_i y ys hy
        rw [hy] at ih
        simp at ih ⊢
        omega
end Go.Proofs.YtkhggefbkhdimaaGreatDoor

namespace Go.Proofs.YtkhggefbkhdimaaGreatDoor
open Go.Lib
set_option linter.unusedVariables false

abbrev hugeN : Nat := 1099511627776
def digB (c : UInt8) : Bool := decide (48 ≤ c.toNat) && decide (c.toNat ≤ 57)
def satStep (n : Nat) (c : UInt8) : Nat := min (10 * n + (c.toNat - 48)) hugeN
def zerosB (l : List UInt8) : Bool := l.all (fun c => c.toNat == 48)
/-- What stands behind a sign that is left open, and the verdict so far. -/
def signL : List UInt8 → List UInt8 × Nat
  | [] => ([], 1)
  | c :: r => if c.toNat = 43 ∨ (c.toNat = 45 ∧ zerosB r = true) then (r, 2) else (c :: r, 1)
/-- spec.CronNumber. -/
def cnum (l : List UInt8) : Nat × Nat :=
  if (signL l).1 = [] then (0, 0) else if (signL l).1.all digB = true then ((signL l).1.foldl satStep 0, (signL l).2) else (0, 0)
/-- cron.mustParseInt. -/
def mustI (l : List UInt8) : Option Nat := match atoiAll l with
  | .ok v => if v < 0 then none else some v.toNat
  | _ => none

theorem signL_cons (c : UInt8) (r : List UInt8) : signL (c :: r) = if c.toNat = 43 ∨ (c.toNat = 45 ∧ zerosB r = true) then (r, 2) else (c :: r, 1) := rfl
theorem sat_le (n : Nat) (c : UInt8) : satStep n c ≤ hugeN := Nat.min_le_right _ _
theorem sat_huge : ∀ l : List UInt8, l.foldl satStep hugeN = hugeN
  | [] => rfl
  | c :: l => by
    rw [List.foldl_cons, show satStep hugeN c = hugeN by unfold satStep hugeN; omega]
    exact sat_huge l
theorem fold_le : ∀ (l : List UInt8) (n : Nat), n ≤ hugeN → l.foldl satStep n ≤ hugeN
  | [], n, h => h
  | c :: l, n, _ => by rw [List.foldl_cons]; exact fold_le l _ (sat_le n c)
theorem cnum_le (l : List UInt8) : (cnum l).1 ≤ hugeN := by
  unfold cnum
  split
  · exact Nat.zero_le _
  · split
    · exact fold_le _ _ (Nat.zero_le _)
    · exact Nat.zero_le _
theorem par_dig : ∀ (l : List UInt8) (acc s : Nat), l.all digB = true → s = min acc hugeN →
    (∀ u, parseUint10 acc l = .ok u → l.foldl satStep s = min u hugeN) ∧ ((∀ u, parseUint10 acc l ≠ .ok u) → l.foldl satStep s = hugeN)
  | [], acc, s, _, hs => ⟨fun u h => by simp only [parseUint10] at h; injection h with h; subst h; exact hs, fun h => absurd rfl (h acc)⟩
  | c :: l, acc, s, hl, hs => by
    rw [List.all_cons, Bool.and_eq_true] at hl
    have hd := hl.1
    unfold digB at hd
    simp only [Bool.and_eq_true, decide_eq_true_eq] at hd
    have hst : satStep s c = min (acc * 10 + (c.toNat - 48)) hugeN := by unfold satStep hugeN; unfold hugeN at hs; omega
    rw [List.foldl_cons]
    simp only [parseUint10]
    rw [if_pos hd]
    by_cases h1 : 1844674407370955162 ≤ acc
    · rw [if_pos h1]
      have : satStep s c = hugeN := by rw [hst]; unfold hugeN; omega
      rw [this, sat_huge]
      exact ⟨(fun u h => by cases h), fun _ => rfl⟩
    · rw [if_neg h1]
      by_cases h2 : 18446744073709551616 ≤ acc * 10 + (c.toNat - 48)
      · rw [if_pos h2]
        have : satStep s c = hugeN := by rw [hst]; unfold hugeN; omega
        rw [this, sat_huge]
        exact ⟨(fun u h => by cases h), fun _ => rfl⟩
      · rw [if_neg h2]
        exact par_dig l _ _ hl.2 hst
theorem par_bad : ∀ (l : List UInt8) (acc u : Nat), l.all digB = false → parseUint10 acc l ≠ .ok u
  | [], acc, u, h => by simp at h
  | c :: l, acc, u, h => by
    simp only [parseUint10]
    by_cases hd : 48 ≤ c.toNat ∧ c.toNat ≤ 57
    · rw [if_pos hd]
      split
      · intro h2; cases h2
      · split
        · intro h2; cases h2
        · refine par_bad l _ u ?_
          have hc : digB c = true := by unfold digB; simp [hd.1, hd.2]
          rw [List.all_cons, hc] at h
          simpa using h
    · rw [if_neg hd]
      intro h2; cases h2
/-- A wrong numeral is refused. -/
theorem num_bad (l : List UInt8) (h : (cnum l).2 = 0) : mustI l = none := by
  unfold mustI
  cases l with
  | nil => rfl
  | cons c r =>
    unfold cnum at h
    rw [signL_cons] at h
    unfold atoiAll parseMag
    by_cases hs : c.toNat = 43 ∨ (c.toNat = 45 ∧ zerosB r = true)
    · rw [if_pos hs] at h
      dsimp only at h ⊢
      have hs2 : c.toNat = 43 ∨ c.toNat = 45 := by rcases hs with h | h; exact Or.inl h; exact Or.inr h.1
      rw [if_pos hs2]
      by_cases hr : r = []
      · rw [if_pos hr]
      · rw [if_neg hr]
        rw [if_neg hr] at h
        by_cases ha : r.all digB = true
        · rw [if_pos ha] at h; simp at h
        · have hb := par_bad r 0
          cases hp : parseUint10 0 r with
          | ok u => exact absurd hp (hb u (by simpa using ha))
          | _ => rfl
    · rw [if_neg hs] at h
      dsimp only at h ⊢
      rw [if_neg (by simp)] at h
      by_cases ha : (c :: r).all digB = true
      · rw [if_pos ha] at h; simp at h
      · by_cases hs2 : c.toNat = 43 ∨ c.toNat = 45
        · have h45 : c.toNat = 45 := by rcases hs2 with e | e; exact absurd (Or.inl e) hs; exact e
          rw [if_pos hs2]
          by_cases hr : r = []
          · rw [if_pos hr]
          · rw [if_neg hr]
            cases hp : parseUint10 0 r with
            | ok u =>
              dsimp only
              rw [if_neg (by omega)]
              by_cases hbig : 9223372036854775808 < u
              · rw [if_pos ⟨h45, hbig⟩]
              · rw [if_neg (fun h => hbig h.2), if_pos h45]
                dsimp only
                have hz : zerosB r = false := by
                  cases hz : zerosB r with
                  | true => exact absurd (Or.inr ⟨h45, hz⟩) hs
                  | false => rfl
                have hu : 0 < u := by
                  refine Nat.pos_of_ne_zero (fun h0 => ?_)
                  subst h0
                  have hnz : ∀ (l : List UInt8) (acc : Nat), parseUint10 acc l = .ok 0 → acc = 0 ∧ zerosB l = true := by
                    intro l
                    induction l with
                    | nil => intro acc h; simp only [parseUint10] at h; injection h with h; exact ⟨h, rfl⟩
                    | cons x xs ih =>
                      intro acc h
                      simp only [parseUint10] at h
                      split at h
                      · split at h
                        · cases h
                        · split at h
                          · cases h
                          · have := ih _ h
                            refine ⟨by omega, ?_⟩
                            unfold zerosB at this ⊢
                            rw [List.all_cons, this.2, Bool.and_true]
                            simp only [beq_iff_eq]
                            omega
                      · cases h
                  rw [(hnz r 0 hp).2] at hz
                  cases hz
                rw [if_pos (by omega)]
            | _ => rfl
        · rw [if_neg hs2, if_neg (by simp)]
          have hb := par_bad (c :: r) 0
          cases hp : parseUint10 0 (c :: r) with
          | ok u => exact absurd hp (hb u (by simpa using ha))
          | _ => rfl
/-- A numeral without a sign is read. -/
theorem num_fine (l : List UInt8) (h : (cnum l).2 = 1) : ((cnum l).1 < hugeN → mustI l = some (cnum l).1) ∧ ((cnum l).1 = hugeN → ∀ v, mustI l = some v → hugeN ≤ v) := by
  cases l with
  | nil => simp [cnum, signL] at h
  | cons c r =>
    by_cases hs : c.toNat = 43 ∨ (c.toNat = 45 ∧ zerosB r = true)
    · unfold cnum at h
      rw [signL_cons, if_pos hs] at h
      dsimp only at h
      split at h
      · simp at h
      · split at h <;> simp at h
    · have e : cnum (c :: r) = if (c :: r).all digB = true then ((c :: r).foldl satStep 0, 1) else (0, 0) := by
        unfold cnum
        rw [signL_cons, if_neg hs]
        dsimp only
        rw [if_neg (by simp)]
      rw [e] at h ⊢
      by_cases ha : (c :: r).all digB = true
      · rw [if_pos ha]
        have hc : 48 ≤ c.toNat ∧ c.toNat ≤ 57 := by
          have := ha
          rw [List.all_cons, Bool.and_eq_true] at this
          have := this.1
          unfold digB at this
          simpa using this
        have hp := par_dig (c :: r) 0 0 ha (by simp)
        have em : mustI (c :: r) = match parseUint10 0 (c :: r) with | .ok u => (if 9223372036854775808 ≤ u then none else some u) | _ => none := by
          unfold mustI atoiAll parseMag
          dsimp only
          rw [if_neg (show ¬(c.toNat = 43 ∨ c.toNat = 45) by omega), if_neg (by simp)]
          cases hq : parseUint10 0 (c :: r) with
          | ok u =>
            dsimp only
            by_cases hb : 9223372036854775808 ≤ u
            · rw [if_pos ⟨by omega, hb⟩, if_pos hb]
            · rw [if_neg (fun h => hb h.2), if_neg (fun h => by omega), if_neg (by omega), if_neg hb]
              dsimp only
              rw [if_neg (by omega)]
              simp
          | _ => rfl
        rw [em]
        dsimp only
        cases hq : parseUint10 0 (c :: r) with
        | ok u =>
          have hf := hp.1 u hq
          rw [hf]
          unfold hugeN
          refine ⟨fun hl => ?_, fun hh v hv => ?_⟩
          · dsimp only
            rw [if_neg (by omega)]
            congr 1
            omega
          · dsimp only at hv
            split at hv
            · cases hv
            · have := Option.some.inj hv
              omega
        | _ => exact ⟨fun hl => by have := hp.2 (fun u h2 => by rw [hq] at h2; cases h2); omega, fun _ v hv => by cases hv⟩
      · rw [if_neg ha] at h; simp at h
end Go.Proofs.YtkhggefbkhdimaaGreatDoor

namespace Go.Proofs.YtkhggefbkhdimaaGreatDoor
open Go.Lib
set_option linter.unusedVariables false

theorem decN_comma (n b0 b1 b2 b3 : Nat) : (decodeN n b0 b1 b2 b3).1 = 44 → b0 = 44 ∧ (decodeN n b0 b1 b2 b3).2 = 1 := by
  unfold decodeN
  repeat' split
  all_goals (dsimp only; intro h; omega)
theorem decN_other (n b0 b1 b2 b3 : Nat) : (decodeN n b0 b1 b2 b3).1 ≠ 44 → b0 ≠ 44 ∧ (1 < (decodeN n b0 b1 b2 b3).2 → b1 ≠ 44) ∧ (2 < (decodeN n b0 b1 b2 b3).2 → b2 ≠ 44) ∧ (3 < (decodeN n b0 b1 b2 b3).2 → b3 ≠ 44) ∧ (decodeN n b0 b1 b2 b3).2 ≤ 4 := by
  unfold decodeN
  repeat' split
  all_goals (dsimp only; intro h; omega)

/-- The pieces between commas that are not empty, cur ahead of the first. -/
def gfl (cur l : List UInt8) : List (List UInt8) := match cutL 44 l with
  | [] => []
  | y :: ys => ((cur ++ y) :: ys).filter (fun z => !z.isEmpty)
theorem gfl_nil (cur : List UInt8) : gfl cur [] = if cur = [] then [] else [cur] := by
  unfold gfl
  cases cur <;> simp [cutL]
theorem gfl_comma (cur : List UInt8) (x : UInt8) (xs : List UInt8) (h : x.toNat = 44) : gfl cur (x :: xs) = (if cur = [] then [] else [cur]) ++ gfl [] xs := by
  have e : cutL 44 (x :: xs) = [] :: cutL 44 xs := by
    unfold cutL
    rw [h]
    cases xs <;> simp [cutL]
  unfold gfl
  rw [e]
  cases hc : cutL 44 xs with
  | nil => exact absurd hc (cutL_ne _ _)
  | cons y ys => cases cur <;> simp
theorem gfl_one (cur : List UInt8) (x : UInt8) (xs : List UInt8) (h : x.toNat ≠ 44) : gfl cur (x :: xs) = gfl (cur ++ [x]) xs := by
  have hx : ((x.toNat : Int) == 44) = false := by simp only [beq_eq_false_iff_ne]; omega
  unfold gfl
  rw [cutL, hx]
  cases hc : cutL 44 xs with
  | nil => exact absurd hc (cutL_ne _ _)
  | cons y ys => simp
theorem gfl_app : ∀ (b cur xs : List UInt8), (∀ x ∈ b, x.toNat ≠ 44) → gfl cur (b ++ xs) = gfl (cur ++ b) xs
  | [], cur, xs, _ => by simp
  | x :: b, cur, xs, h => by
    rw [List.cons_append, gfl_one _ _ _ (h x (by simp)), gfl_app b _ _ (fun y hy => h y (by simp [hy]))]
    simp
theorem get_at (s : ByteArray) (i : Nat) (h : i < s.size) : s.data.toList[i]? = some (s.get! i) := by
  obtain ⟨⟨l⟩⟩ := s
  have h' : i < l.length := h
  show l[i]? = some (ByteArray.get! ⟨⟨l⟩⟩ i)
  rw [List.getElem?_eq_getElem h']
  unfold ByteArray.get!
  simp [h']
theorem take_other (s : ByteArray) (pos : Nat) (hp : pos < s.size) (h : (Utf8.decode s pos).1 ≠ 44) (hw : pos + (Utf8.decode s pos).2 ≤ s.size) : ∀ x ∈ (s.data.toList.drop pos).take (Utf8.decode s pos).2, x.toNat ≠ 44 := by
  rw [decode_at] at h hw ⊢
  have hd := decN_other _ _ _ _ _ h
  generalize (decodeN (s.size - pos) (s.get! pos).toNat (s.get! (pos + 1)).toNat (s.get! (pos + 2)).toNat (s.get! (pos + 3)).toNat).2 = k at hd hw ⊢
  intro x hx
  obtain ⟨j, hj⟩ := List.getElem?_of_mem hx
  have hjk : j < k := by
    rcases Nat.lt_or_ge j k with c | c
    · exact c
    · rw [List.getElem?_take, if_neg (by omega)] at hj; cases hj
  rw [List.getElem?_take, if_pos hjk, List.getElem?_drop, get_at s (pos + j) (by omega)] at hj
  have e := Option.some.inj hj
  subst e
  have : j = 0 ∨ j = 1 ∨ j = 2 ∨ j = 3 := by omega
  rcases this with rfl | rfl | rfl | rfl
  · exact hd.1
  · exact hd.2.1 (by omega)
  · exact hd.2.2.1 (by omega)
  · exact hd.2.2.2.1 (by omega)

theorem gfl_spans (s : ByteArray) : ∀ (f pos : Nat) (st : Option Nat) (acc : List (Nat × Nat)), s.size ≤ pos + f → pos ≤ s.size → (∀ a, st = some a → a < pos) →
    acc.map (fun p => pieceU s.data.toList p.1 p.2) ++ gfl (openPiece s.data.toList st pos) (s.data.toList.drop pos) = (closeSpans s (spansFromP (fun r => r == 44) s f pos st acc)).map (fun p => pieceU s.data.toList p.1 p.2)
  | 0, pos, st, acc, h, hp, hst => by
    obtain rfl : pos = s.size := by omega
    have hd : s.data.toList.drop s.size = [] := List.drop_eq_nil_of_le (by rw [← size_eq]; exact Nat.le_refl _)
    rw [hd, gfl_nil]
    cases st with
    | none => simp [spansFromP, closeSpans, openPiece]
    | some a =>
      have := pieceU_ne s.data.toList a s.size (hst a rfl) (by rw [← size_eq]; exact Nat.le_refl _)
      simp [spansFromP, closeSpans, openPiece, this]
  | f + 1, pos, st, acc, h, hp, hst => by
    by_cases hlt : pos < s.size
    · have hw := width_pos s pos
      have hwn : pos + (Utf8.decode s pos).2 ≤ s.size := by
        have := decodeN_le_n' (s.size - pos) (s.get! pos).toNat (s.get! (pos + 1)).toNat (s.get! (pos + 2)).toNat (s.get! (pos + 3)).toNat (by omega)
        rw [← decode_at] at this
        omega
      simp only [spansFromP, if_pos hlt]
      by_cases hsp : (Utf8.decode s pos).1 = 44
      · have hc := decN_comma _ _ _ _ _ (by rw [← decode_at]; exact hsp)
        rw [← decode_at] at hc
        have hdr : s.data.toList.drop pos = s.get! pos :: s.data.toList.drop (pos + 1) := by
          have hg := get_at s pos hlt
          have hl := (List.getElem?_eq_some_iff.1 hg).1
          rw [List.drop_eq_getElem_cons hl]
          have := (List.getElem?_eq_some_iff.1 hg).2
          rw [this]
        rw [hdr, gfl_comma _ _ _ hc.1, hc.2]
        simp only [hsp, beq_self_eq_true, if_true]
        cases st with
        | none =>
          have ih := gfl_spans s f (pos + 1) none acc (by omega) (by omega) (fun a h => by cases h)
          simpa [openPiece] using ih
        | some a =>
          have hpn := pieceU_ne s.data.toList a pos (hst a rfl) (by rw [← size_eq]; omega)
          have ih := gfl_spans s f (pos + 1) none (acc ++ [(a, pos)]) (by omega) (by omega) (fun a h => by cases h)
          simpa [openPiece, hpn] using ih
      · have hto := take_other s pos hlt hsp hwn
        have hsb : ((Utf8.decode s pos).1 == 44) = false := by simpa using hsp
        have hsplit : s.data.toList.drop pos = (s.data.toList.drop pos).take (Utf8.decode s pos).2 ++ s.data.toList.drop (pos + (Utf8.decode s pos).2) := by
          rw [← List.drop_drop]
          exact (List.take_append_drop _ _).symm
        rw [hsplit, gfl_app _ _ _ hto]
        simp only [hsb, Bool.false_eq_true, if_false]
        cases st with
        | none =>
          have ih := gfl_spans s f (pos + (Utf8.decode s pos).2) (some pos) acc (by omega) hwn (fun a h => by cases h; omega)
          have e : ([] : List UInt8) ++ (s.data.toList.drop pos).take (Utf8.decode s pos).2 = pieceU s.data.toList pos (pos + (Utf8.decode s pos).2) := by
            unfold pieceU
            rw [List.nil_append, Nat.add_sub_cancel_left]
          simp only [openPiece] at ih ⊢
          rw [e]
          exact ih
        | some a =>
          have ih := gfl_spans s f (pos + (Utf8.decode s pos).2) (some a) acc (by omega) hwn (fun b h => by cases h; have := hst a rfl; omega)
          simp only [openPiece] at ih ⊢
          rw [pieceU_grow _ _ _ _ (Nat.le_of_lt (hst a rfl))]
          exact ih
    · obtain rfl : pos = s.size := by omega
      have hd : s.data.toList.drop s.size = [] := List.drop_eq_nil_of_le (by rw [← size_eq]; exact Nat.le_refl _)
      rw [hd, gfl_nil, spansFromP_end _ s _ _ _ _ hlt]
      cases st with
      | none => simp [closeSpans, openPiece]
      | some a =>
        have := pieceU_ne s.data.toList a s.size (hst a rfl) (by rw [← size_eq]; exact Nat.le_refl _)
        simp [closeSpans, openPiece, this]

/-- strings.FieldsFunc at commas. -/
theorem fields_comma (s : ByteArray) : goFieldsP (fun r => r == 44) s = (cutB 44 s).filter (fun z => !z.data.toList.isEmpty) := by
  have h := gfl_spans s s.size 0 none [] (by omega) (by omega) (fun a h => by cases h)
  have e1 : gfl [] s.data.toList = (cutL 44 s.data.toList).filter (fun z => !z.isEmpty) := by
    unfold gfl
    cases hc : cutL 44 s.data.toList with
    | nil => exact absurd hc (cutL_ne _ _)
    | cons y ys => simp
  simp only [List.map_nil, List.nil_append, openPiece, List.drop_zero] at h
  rw [e1] at h
  have inj : ∀ x : ByteArray, (⟨x.data.toList.toArray⟩ : ByteArray) = x := fun x => by obtain ⟨⟨l⟩⟩ := x; rfl
  have h2 : (goFieldsP (fun r => r == 44) s).map (·.data.toList) = (cutL 44 s.data.toList).filter (fun z => !z.isEmpty) := by
    rw [h]
    unfold goFieldsP spansOfP
    rw [List.map_map]
    refine List.map_congr_left (fun p _ => ?_)
    simp only [Function.comp_apply, extract_data, pieceU]
  have h3 := congrArg (List.map (fun l : List UInt8 => (⟨l.toArray⟩ : ByteArray))) h2
  rw [List.map_map] at h3
  have h4 : List.map ((fun l : List UInt8 => (⟨l.toArray⟩ : ByteArray)) ∘ fun x => x.data.toList) (goFieldsP (fun r => r == 44) s) = goFieldsP (fun r => r == 44) s := by
    conv => rhs; rw [← List.map_id (goFieldsP (fun r => r == 44) s)]
    exact List.map_congr_left (fun x _ => inj x)
  rw [h4] at h3
  rw [h3]
  unfold cutB
  rw [List.filter_map]
  rfl
end Go.Proofs.YtkhggefbkhdimaaGreatDoor

namespace Go.Proofs.YtkhggefbkhdimaaGreatDoor
open Go.Lib
set_option linter.unusedVariables false

theorem num_open (l : List UInt8) (h : (cnum l).2 = 2) (h0 : (cnum l).1 = 0) : ∀ v, mustI l = some v → v = 0 := by
  cases l with
  | nil => simp [cnum, signL] at h
  | cons c r =>
    unfold cnum at h h0
    by_cases hs : c.toNat = 43 ∨ (c.toNat = 45 ∧ zerosB r = true)
    · rw [signL_cons, if_pos hs] at h h0
      dsimp only at h h0
      by_cases hr : r = []
      · rw [if_pos hr] at h; simp at h
      · rw [if_neg hr] at h h0
        by_cases ha : r.all digB = true
        · rw [if_pos ha] at h0
          dsimp only at h0
          have hp := par_dig r 0 0 ha (by simp)
          have hs2 : c.toNat = 43 ∨ c.toNat = 45 := by rcases hs with h | h; exact Or.inl h; exact Or.inr h.1
          intro v hv
          unfold mustI atoiAll parseMag at hv
          dsimp only at hv
          rw [if_pos hs2, if_neg hr] at hv
          cases hq : parseUint10 0 r with
          | ok u =>
            have hu := hp.1 u hq
            rw [h0] at hu
            have hu0 : u = 0 := by unfold hugeN at hu; omega
            subst hu0
            rw [hq] at hv
            dsimp only at hv
            rw [if_neg (by omega), if_neg (by omega)] at hv
            by_cases h45 : c.toNat = 45
            · rw [if_pos h45] at hv; simp at hv; exact hv.symm
            · rw [if_neg h45] at hv; simp at hv; exact hv.symm
          | _ => rw [hq] at hv; cases hv
        · rw [if_neg ha] at h; simp at h
    · rw [signL_cons, if_neg hs] at h
      dsimp only at h
      split at h
      · simp at h
      · split at h <;> simp at h

/-- A value: what the reference says of it, and what the code reads. -/
def ValOk (vs : Nat × Nat) (vi : Option Nat) : Prop :=
  vs.1 ≤ hugeN ∧ vs.2 ≤ 2 ∧ (vs.2 = 0 → vi = none) ∧ (vs.2 = 1 → (vs.1 < hugeN → vi = some vs.1) ∧ (vs.1 = hugeN → ∀ v, vi = some v → hugeN ≤ v))
theorem cnum_v (l : List UInt8) : (cnum l).2 ≤ 2 := by
  unfold cnum
  split
  · exact Nat.zero_le _
  · split
    · cases l with
      | nil => decide
      | cons c r => rw [signL_cons]; split <;> simp
    · exact Nat.zero_le _
theorem num_ok (l : List UInt8) : ValOk (cnum l) (mustI l) := ⟨cnum_le l, cnum_v l, num_bad l, num_fine l⟩
def worseN (a b : Nat) : Nat := if a = 0 ∨ b = 0 then 0 else max a b

structure Ends where
  low : Nat
  high : Nat
  star : Bool
  single : Bool
/-- spec.cronEnds. -/
def endsS (lo hi : Nat) (days : Bool) (V : List UInt8 → Nat × Nat) (t : List UInt8) : Ends × Nat :=
  match cutL 45 t with
  | [] => (⟨0, 0, false, false⟩, 0)
  | e0 :: es =>
    if e0 = [42] ∨ e0 = [63] then (⟨lo, hi, true, es.isEmpty⟩, if es.isEmpty = false ∨ (e0 = [63] ∧ days = false) then 2 else 1)
    else match es with
      | [] => (⟨(V e0).1, (V e0).1, false, true⟩, (V e0).2)
      | [e1] => (⟨(V e0).1, (V e1).1, false, false⟩, worseN (V e0).2 (V e1).2)
      | _ => (⟨0, 0, false, false⟩, 0)
/-- The ends that cron.getRange reads. -/
def endsI (lo hi : Nat) (U : List UInt8 → Option Nat) (t : List UInt8) : Option Ends :=
  match cutL 45 t with
  | [] => none
  | e0 :: es =>
    if e0 = [42] ∨ e0 = [63] then some ⟨lo, hi, true, es.isEmpty⟩
    else match U e0 with
      | none => none
      | some a => match es with
        | [] => some ⟨a, a, false, true⟩
        | [e1] => match U e1 with
          | none => none
          | some b => some ⟨a, b, false, false⟩
        | _ => none
def EndOk (E : Ends × Nat) (I : Option Ends) : Prop :=
  E.2 ≤ 2 ∧ (E.2 = 0 → I = none) ∧ (E.2 = 1 → E.1.low ≤ hugeN ∧ E.1.high ≤ hugeN ∧ (E.1.single = true → E.1.star = false → E.1.high = E.1.low) ∧ (E.1.low < hugeN → E.1.high < hugeN → ∃ x, I = some x) ∧
    ∀ x, I = some x → x.star = E.1.star ∧ x.single = E.1.single ∧ (E.1.low < hugeN → x.low = E.1.low) ∧ (E.1.low = hugeN → hugeN ≤ x.low) ∧ (E.1.high < hugeN → x.high = E.1.high) ∧ (E.1.high = hugeN → hugeN ≤ x.high))
theorem worse_one {a b : Nat} (ha : a ≤ 2) (hb : b ≤ 2) (h : worseN a b = 1) : a = 1 ∧ b = 1 := by
  unfold worseN at h
  split at h
  · omega
  · omega
theorem worse_zero {a b : Nat} (h : worseN a b = 0) : a = 0 ∨ b = 0 := by
  unfold worseN at h
  split at h
  · assumption
  · omega
theorem worse_le {a b : Nat} (ha : a ≤ 2) (hb : b ≤ 2) : worseN a b ≤ 2 := by
  unfold worseN
  split <;> omega
theorem val_some {vs : Nat × Nat} {vi : Option Nat} (h : ValOk vs vi) (h1 : vs.2 = 1) {v : Nat} (hv : vi = some v) : (vs.1 < hugeN → v = vs.1) ∧ (vs.1 = hugeN → hugeN ≤ v) :=
  ⟨fun hl => by have := (h.2.2.2 h1).1 hl; rw [hv] at this; exact Option.some.inj this, fun hh => (h.2.2.2 h1).2 hh v hv⟩
theorem ends_ok (lo hi : Nat) (hh : lo < hugeN ∧ hi < hugeN) (days : Bool) (V : List UInt8 → Nat × Nat) (U : List UInt8 → Option Nat) (hV : ∀ t, ValOk (V t) (U t)) (t : List UInt8) : EndOk (endsS lo hi days V t) (endsI lo hi U t) := by
  unfold endsS endsI
  cases hc : cutL 45 t with
  | nil => exact absurd hc (cutL_ne _ _)
  | cons e0 es =>
    dsimp only
    by_cases hs : e0 = [42] ∨ e0 = [63]
    · rw [if_pos hs, if_pos hs]
      refine ⟨by dsimp only; split <;> omega, fun h => ?_, fun _ => ⟨Nat.le_of_lt hh.1, Nat.le_of_lt hh.2, (fun _ h => by cases h), fun _ _ => ⟨_, rfl⟩, fun x hx => ?_⟩⟩
      · dsimp only at h; split at h <;> omega
      · have := Option.some.inj hx
        subst this
        exact ⟨rfl, rfl, fun _ => rfl, fun h => (by have := hh.1; dsimp only at h; omega), fun _ => rfl, fun h => (by have := hh.2; dsimp only at h; omega)⟩
    · rw [if_neg hs, if_neg hs]
      have h0 := hV e0
      match es with
      | [] =>
        dsimp only
        refine ⟨h0.2.1, fun h => by rw [h0.2.2.1 h], fun h => ⟨h0.1, h0.1, fun _ _ => rfl, fun hl _ => ?_, fun x hx => ?_⟩⟩
        · rw [(h0.2.2.2 h).1 hl]; exact ⟨_, rfl⟩
        · cases hu : U e0 with
          | none => rw [hu] at hx; cases hx
          | some a =>
            rw [hu] at hx
            have := Option.some.inj hx
            subst this
            have hv := val_some h0 h hu
            exact ⟨rfl, rfl, hv.1, hv.2, hv.1, hv.2⟩
      | [e1] =>
        have h1 := hV e1
        dsimp only
        refine ⟨worse_le h0.2.1 h1.2.1, fun h => ?_, fun h => ?_⟩
        · rcases worse_zero h with h | h
          · rw [h0.2.2.1 h]
          · rw [h1.2.2.1 h]
            cases U e0 <;> rfl
        · have hw := worse_one h0.2.1 h1.2.1 h
          refine ⟨h0.1, h1.1, fun h => (by cases h), fun hl hg => ?_, fun x hx => ?_⟩
          · rw [(h0.2.2.2 hw.1).1 hl, (h1.2.2.2 hw.2).1 hg]; exact ⟨_, rfl⟩
          · cases hu : U e0 with
            | none => rw [hu] at hx; cases hx
            | some a =>
              rw [hu] at hx
              cases hu1 : U e1 with
              | none => rw [hu1] at hx; cases hx
              | some b =>
                rw [hu1] at hx
                have := Option.some.inj hx
                subst this
                have hv := val_some h0 hw.1 hu
                have hv1 := val_some h1 hw.2 hu1
                exact ⟨rfl, rfl, hv.1, hv.2, hv1.1, hv1.2⟩
      | _ :: _ :: _ =>
        dsimp only
        refine ⟨by omega, fun _ => ?_, fun h => by omega⟩
        cases U e0 <;> rfl

/-- spec.CronStep. -/
def stepS (t : List UInt8) : Nat × Nat := if (cnum t).2 = 0 ∨ (cnum t).1 = 0 then (0, 0) else if (cnum t).1 = hugeN then (0, 2) else cnum t
theorem step_ok (t : List UInt8) : (stepS t).2 ≤ 2 ∧ ((stepS t).2 = 0 → ∀ v, mustI t = some v → v = 0) ∧ ((stepS t).2 = 1 → 0 < (stepS t).1 ∧ mustI t = some (stepS t).1) := by
  have hn := num_ok t
  unfold stepS
  by_cases h : (cnum t).2 = 0 ∨ (cnum t).1 = 0
  · rw [if_pos h]
    refine ⟨(by dsimp only; omega), fun _ v hv => ?_, fun h => by dsimp only at h; omega⟩
    by_cases h0 : (cnum t).2 = 0
    · rw [hn.2.2.1 h0] at hv; cases hv
    · have hz : (cnum t).1 = 0 := h.resolve_left h0
      by_cases h1 : (cnum t).2 = 1
      · have := (val_some hn h1 hv).1 (by rw [hz]; decide)
        omega
      · exact num_open t (by have := hn.2.1; omega) hz v hv
  · rw [if_neg h]
    by_cases h2 : (cnum t).1 = hugeN
    · rw [if_pos h2]; exact ⟨(by dsimp only; omega), (fun h => by dsimp only at h; omega), (fun h => by dsimp only at h; omega)⟩
    · rw [if_neg h2]
      refine ⟨hn.2.1, fun h0 => absurd (Or.inl h0) h, fun h1 => ⟨by omega, (hn.2.2.2 h1).1 (by have := hn.1; omega)⟩⟩

/-- What an item means. -/
structure Item where
  low : Nat
  high : Nat
  step : Nat
  star : Bool
def Item.bits (i : Item) : Nat := GB i.low i.high i.step ||| (if i.star then 9223372036854775808 else 0)
def finS (lo hi : Nat) (two : Bool) (E : Ends × Nat) (k : Nat × Nat) : Nat × Item :=
  let high := if two && E.1.single && !E.1.star then hi else E.1.high
  if worseN E.2 k.2 ≠ 1 then (worseN E.2 k.2, ⟨0, 0, 0, false⟩)
  else if E.1.low < lo ∨ hi < high ∨ high < E.1.low then (0, ⟨0, 0, 0, false⟩)
  else (1, ⟨E.1.low, high, k.1, E.1.star && decide (k.1 = 1)⟩)
/-- spec.CronItem. -/
def itemS (lo hi : Nat) (days : Bool) (V : List UInt8 → Nat × Nat) (t : List UInt8) : Nat × Item :=
  match cutL 47 t with
  | [p0] => finS lo hi false (endsS lo hi days V p0) (1, 1)
  | [p0, p1] => finS lo hi true (endsS lo hi days V p0) (stepS p1)
  | _ => (0, ⟨0, 0, 0, false⟩)
def finI (lo hi : Nat) (two : Bool) (E : Ends) (k : Nat) : Option Item :=
  let high := if two && E.single then hi else E.high
  if E.low < lo ∨ hi < high ∨ high < E.low ∨ k = 0 then none else some ⟨E.low, high, k, E.star && decide (k ≤ 1)⟩
/-- cron.getRange. -/
def itemI (lo hi : Nat) (U : List UInt8 → Option Nat) (t : List UInt8) : Option Item :=
  match cutL 47 t with
  | [] => none
  | p0 :: ps => match endsI lo hi U p0 with
    | none => none
    | some E => match ps with
      | [] => finI lo hi false E 1
      | [p1] => match mustI p1 with
        | none => none
        | some k => finI lo hi true E k
      | _ => none
theorem fin_ok (lo hi : Nat) (hl : lo ≤ hi) (hh : hi < hugeN) (two : Bool) (E : Ends × Nat) (I : Option Ends) (hE : EndOk E I) (k : Nat × Nat) (ki : Option Nat) (hk2 : k.2 ≤ 2) (hk0 : k.2 = 0 → ∀ v, ki = some v → v = 0) (hk1 : k.2 = 1 → 0 < k.1 ∧ ki = some k.1) (hstar : E.1.star = true → E.1.high = hi) :
    ((finS lo hi two E k).1 = 0 → ∀ x v, I = some x → ki = some v → finI lo hi two x v = none) ∧
    ((finS lo hi two E k).1 = 1 → ∃ x v, I = some x ∧ ki = some v ∧ finI lo hi two x v = some (finS lo hi two E k).2) := by
  obtain ⟨e2, e0, e1⟩ := hE
  unfold finS
  dsimp only
  by_cases hw : worseN E.2 k.2 = 1
  · obtain ⟨w1, w2⟩ := worse_one e2 hk2 hw
    obtain ⟨kp, kv⟩ := hk1 w2
    obtain ⟨q1, q2, q3, q4, q5⟩ := e1 w1
    rw [if_neg (fun h => h hw)]
    by_cases hb : E.1.low < lo ∨ hi < (if (two && E.1.single && !E.1.star) = true then hi else E.1.high) ∨ (if (two && E.1.single && !E.1.star) = true then hi else E.1.high) < E.1.low
    · rw [if_pos hb]
      refine ⟨fun _ x v hx hv => ?_, fun h => by dsimp only at h; omega⟩
      obtain ⟨r1, r2, r3, r4, r5, r6⟩ := q5 x hx
      rw [kv] at hv
      have hv := Option.some.inj hv
      unfold finI
      dsimp only
      rw [if_pos]
      rw [r2]
      by_cases c1 : (two && E.1.single) = true
      · rw [if_pos c1]
        by_cases c2 : E.1.star = true
        · rw [c2] at hb
          simp only [Bool.not_true, Bool.and_false, Bool.false_eq_true, if_false] at hb
          have := hstar c2
          by_cases c3 : E.1.low < hugeN
          · have := r3 c3; omega
          · have := r4 (by omega); omega
        · rw [if_pos (by simp only [Bool.not_eq_true] at c2; rw [c2, c1]; rfl)] at hb
          by_cases c3 : E.1.low < hugeN
          · have := r3 c3; omega
          · have := r4 (by omega); omega
      · rw [if_neg c1]
        rw [if_neg (fun h => c1 (by rw [Bool.and_eq_true] at h; exact h.1))] at hb
        by_cases c3 : E.1.low < hugeN
        · have := r3 c3
          by_cases c4 : E.1.high < hugeN
          · have := r5 c4; omega
          · have := r6 (by omega); omega
        · have := r4 (by omega)
          by_cases c4 : E.1.high < hugeN
          · have := r5 c4; omega
          · have := r6 (by omega); omega
    · rw [if_neg hb]
      refine ⟨fun h => by dsimp only at h; omega, fun _ => ?_⟩
      have hlow : E.1.low < hugeN := by
        rcases Nat.lt_or_ge E.1.low hugeN with c | c
        · exact c
        · exfalso; split at hb <;> omega
      have hhigh : E.1.high < hugeN := by
        by_cases c : (two && E.1.single && !E.1.star) = true
        · rw [Bool.and_eq_true, Bool.and_eq_true] at c
          have := q3 c.1.2 (by simpa using c.2)
          omega
        · rw [if_neg c] at hb; omega
      obtain ⟨x, hx⟩ := q4 hlow hhigh
      obtain ⟨r1, r2, r3, r4, r5, r6⟩ := q5 x hx
      have x1 := r3 hlow
      have x2 := r5 hhigh
      refine ⟨x, k.1, hx, kv, ?_⟩
      have ehigh : (if (two && x.single) = true then hi else x.high) = (if (two && E.1.single && !E.1.star) = true then hi else E.1.high) := by
        rw [r2, x2]
        by_cases c1 : (two && E.1.single) = true
        · rw [if_pos c1]
          by_cases c2 : E.1.star = true
          · rw [if_neg (by rw [c2]; simp), hstar c2]
          · rw [if_pos (by simp only [Bool.not_eq_true] at c2; rw [c2, c1]; rfl)]
        · rw [if_neg c1, if_neg (fun h => c1 (by rw [Bool.and_eq_true] at h; exact h.1))]
      unfold finI
      dsimp only
      rw [ehigh, x1, r1, if_neg (by omega)]
      congr 2
      have : decide (k.1 ≤ 1) = decide (k.1 = 1) := decide_eq_decide.2 (by omega)
      rw [this]
  · rw [if_pos hw]
    refine ⟨fun h x v hx hv => ?_, fun h => absurd h hw⟩
    rcases worse_zero h with h | h
    · rw [e0 h] at hx; cases hx
    · have := hk0 h v hv
      subst this
      unfold finI
      dsimp only
      rw [if_pos (by omega)]
theorem ends_star (lo hi : Nat) (days : Bool) (V : List UInt8 → Nat × Nat) (t : List UInt8) : (endsS lo hi days V t).1.star = true → (endsS lo hi days V t).1.high = hi := by
  unfold endsS
  split
  · intro h; cases h
  · split
    · intro _; rfl
    · split <;> (intro h; cases h)
/-- An item that the reference calls wrong is refused; one that it calls fine is read as it means. -/
theorem item_ok (lo hi : Nat) (hl : lo ≤ hi) (hh : hi < hugeN) (days : Bool) (V : List UInt8 → Nat × Nat) (U : List UInt8 → Option Nat) (hV : ∀ t, ValOk (V t) (U t)) (t : List UInt8) :
    ((itemS lo hi days V t).1 = 0 → itemI lo hi U t = none) ∧ ((itemS lo hi days V t).1 = 1 → itemI lo hi U t = some (itemS lo hi days V t).2) := by
  unfold itemS itemI
  cases hc : cutL 47 t with
  | nil => exact absurd hc (cutL_ne _ _)
  | cons p0 ps =>
    have hE := ends_ok lo hi ⟨by omega, hh⟩ days V U hV p0
    have hst := ends_star lo hi days V p0
    match ps with
    | [] =>
      have hf := fin_ok lo hi hl hh false _ _ hE (1, 1) (some 1) (by decide) (fun h => by cases h) (fun _ => ⟨by decide, rfl⟩) hst
      dsimp only
      refine ⟨fun h => ?_, fun h => ?_⟩
      · cases hI : endsI lo hi U p0 with
        | none => rfl
        | some x => exact hf.1 h x 1 hI rfl
      · obtain ⟨x, v, hx, hv, hr⟩ := hf.2 h
        rw [hx]
        have := Option.some.inj hv
        subst this
        exact hr
    | [p1] =>
      have hs := step_ok p1
      have hf := fin_ok lo hi hl hh true _ _ hE (stepS p1) (mustI p1) hs.1 hs.2.1 hs.2.2 hst
      dsimp only
      refine ⟨fun h => ?_, fun h => ?_⟩
      · cases hI : endsI lo hi U p0 with
        | none => rfl
        | some x =>
          cases hm : mustI p1 with
          | none => rfl
          | some v => exact hf.1 h x v hI hm
      · obtain ⟨x, v, hx, hv, hr⟩ := hf.2 h
        rw [hx, hv]
        exact hr
    | _ :: _ :: _ =>
      dsimp only
      refine ⟨fun _ => ?_, fun h => by omega⟩
      cases endsI lo hi U p0 <;> rfl
end Go.Proofs.YtkhggefbkhdimaaGreatDoor

namespace Go.Proofs.YtkhggefbkhdimaaGreatDoor
open Go.Lib
set_option linter.unusedVariables false

def loK (k : Nat) : Nat := if k = 3 ∨ k = 4 then 1 else 0
def hiK (k : Nat) : Nat := if k = 2 then 23 else if k = 3 then 31 else if k = 4 then 12 else if k = 5 then 6 else 59
theorem loK_hiK (k : Nat) : loK k ≤ hiK k ∧ hiK k < 63 := by unfold loK hiK; split <;> split <;> (try split) <;> (try split) <;> (try split) <;> omega
/-- The names of a field, in capitals. -/
def namesU (k : Nat) : List (List Nat) :=
  if k = 4 then [[74, 65, 78], [70, 69, 66], [77, 65, 82], [65, 80, 82], [77, 65, 89], [74, 85, 78], [74, 85, 76], [65, 85, 71], [83, 69, 80], [79, 67, 84], [78, 79, 86], [68, 69, 67]]
  else if k = 5 then [[83, 85, 78], [77, 79, 78], [84, 85, 69], [87, 69, 68], [84, 72, 85], [70, 82, 73], [83, 65, 84]]
  else []
theorem names_up (k : Nat) : ∀ N ∈ namesU k, ∀ n ∈ N, 65 ≤ n ∧ n ≤ 90 := by
  unfold namesU
  split
  · decide
  · split
    · decide
    · intro N h; simp at h
theorem names_len (k : Nat) : (namesU k).length ≤ 12 := by unfold namesU; split; · decide
                                                           · split <;> decide
def upN (c : Nat) : Nat := if 97 ≤ c ∧ c ≤ 122 then c - 32 else c
def lowN (c : Nat) : Nat := if 65 ≤ c ∧ c ≤ 90 then c + 32 else c
def lowU (c : UInt8) : UInt8 := UInt8.ofNat (lowN c.toNat)
def lowName (N : List Nat) : List UInt8 := N.map (fun n => UInt8.ofNat (n + 32))
def asciiB (t : List UInt8) : Bool := t.all (fun c => decide (c.toNat < 128))
theorem up_low (c : UInt8) (n : Nat) (hc : c.toNat < 128) (hn : 65 ≤ n ∧ n ≤ 90) : (lowU c = UInt8.ofNat (n + 32)) ↔ upN c.toNat = n := by
  have e : (lowU c = UInt8.ofNat (n + 32)) ↔ lowN c.toNat = n + 32 := by
    constructor
    · intro h
      have h2 := congrArg UInt8.toNat h
      unfold lowU at h2
      rw [UInt8.toNat_ofNat', UInt8.toNat_ofNat', Nat.mod_eq_of_lt (by unfold lowN; split <;> omega), Nat.mod_eq_of_lt (by omega)] at h2
      exact h2
    · intro h; unfold lowU; rw [h]
  rw [e]
  unfold lowN upN
  split <;> split <;> omega
theorem low_names : ∀ (t : List UInt8) (N : List Nat), asciiB t = true → (∀ n ∈ N, 65 ≤ n ∧ n ≤ 90) → (t.map lowU = lowName N ↔ t.map (fun c => upN c.toNat) = N)
  | [], [], _, _ => by simp [lowName]
  | [], n :: N, _, _ => by simp [lowName]
  | c :: t, [], _, _ => by simp [lowName]
  | c :: t, n :: N, ha, hn => by
    unfold asciiB at ha
    rw [List.all_cons, Bool.and_eq_true, decide_eq_true_eq] at ha
    have h1 := up_low c n ha.1 (hn n (by simp))
    have h2 := low_names t N ha.2 (fun m hm => hn m (by simp [hm]))
    unfold lowName at h2 ⊢
    simp only [List.map_cons, List.cons.injEq]
    rw [h1, h2]
theorem ascii_of_name : ∀ (t : List UInt8) (N : List Nat), (∀ n ∈ N, 65 ≤ n ∧ n ≤ 90) → t.map (fun c => upN c.toNat) = N → asciiB t = true
  | [], N, _, _ => rfl
  | c :: t, [], _, h => by simp at h
  | c :: t, n :: N, hn, h => by
    simp only [List.map_cons, List.cons.injEq] at h
    have h1 := hn n (by simp)
    have h2 := ascii_of_name t N (fun m hm => hn m (by simp [hm])) h.2
    have h3 : c.toNat < 128 := by have := h.1; unfold upN at this; split at this <;> omega
    unfold asciiB at h2 ⊢
    rw [List.all_cons, h2, Bool.and_true, decide_eq_true_eq]
    exact h3
/-- The number of the name that a text is, in small or capital letters. -/
def nameIx (k : Nat) (t : List UInt8) : Option Nat := (namesU k).findIdx? (fun N => t.map (fun c => upN c.toNat) == N)
/-- The number of the name that a lowered text is. -/
def lookIx (k : Nat) (s : List UInt8) : Option Nat := (namesU k).findIdx? (fun N => s == lowName N)
theorem look_eq (k : Nat) (t : List UInt8) (ha : asciiB t = true) : lookIx k (t.map lowU) = nameIx k t := by
  unfold lookIx nameIx
  have h : ∀ (L : List (List Nat)), (∀ N ∈ L, ∀ n ∈ N, 65 ≤ n ∧ n ≤ 90) → L.findIdx? (fun N => t.map lowU == lowName N) = L.findIdx? (fun N => t.map (fun c => upN c.toNat) == N) := by
    intro L
    induction L with
    | nil => intro _; rfl
    | cons N L ih =>
      intro hL
      have e : (t.map lowU == lowName N) = (t.map (fun c => upN c.toNat) == N) := by
        rw [Bool.eq_iff_iff, beq_iff_eq, beq_iff_eq]
        exact low_names t N ha (hL N (by simp))
      rw [List.findIdx?_cons, List.findIdx?_cons, e, ih (fun M hM => hL M (by simp [hM]))]
  exact h _ (names_up k)
/-- spec.CronValue. -/
def valS (k : Nat) (t : List UInt8) : Nat × Nat := match nameIx k t with
  | some i => (i + loK k, 1)
  | none => if (k = 4 ∨ k = 5) ∧ asciiB t = false then (0, 2) else cnum t
/-- cron.parseIntOrName; low: the lowered text. -/
def valI (k : Nat) (low t : List UInt8) : Option Nat := match lookIx k low with
  | some i => some (i + loK k)
  | none => mustI t
theorem look_none (k : Nat) (h : ¬(k = 4 ∨ k = 5)) (s : List UInt8) : lookIx k s = none := by
  unfold lookIx namesU
  rw [if_neg (fun e => h (Or.inl e)), if_neg (fun e => h (Or.inr e))]
  rfl
theorem val_ok (k : Nat) (low t : List UInt8) (hl : asciiB t = true → low = t.map lowU) : ValOk (valS k t) (valI k low t) := by
  unfold valS valI
  cases hn : nameIx k t with
  | some i =>
    have hlt : i < (namesU k).length := (List.findIdx?_eq_some_iff_findIdx_eq.1 hn).1
    have ha : asciiB t = true := by
      unfold nameIx at hn
      obtain ⟨h1, h2, _⟩ := List.findIdx?_eq_some_iff_getElem.1 hn
      exact ascii_of_name t _ (names_up k _ (List.getElem_mem h1)) (by simpa using h2)
    rw [hl ha, look_eq k t ha, hn]
    dsimp only
    have h12 := names_len k
    have hlo : loK k ≤ 1 := by unfold loK; split <;> omega
    exact ⟨(by dsimp only; unfold hugeN; omega), (by dsimp only; omega), (fun h => by cases h), fun _ => ⟨fun _ => rfl, fun h => by dsimp only at h; unfold hugeN at h; omega⟩⟩
  | none =>
    dsimp only
    by_cases hf : (k = 4 ∨ k = 5) ∧ asciiB t = false
    · rw [if_pos hf]
      exact ⟨Nat.zero_le _, by decide, (fun h => by cases h), (fun h => by cases h)⟩
    · rw [if_neg hf]
      have hL : lookIx k low = none := by
        by_cases hk : k = 4 ∨ k = 5
        · have ha : asciiB t = true := by
            cases h : asciiB t with
            | true => rfl
            | false => exact absurd ⟨hk, h⟩ hf
          rw [hl ha, look_eq k t ha, hn]
        · exact look_none k hk low
      rw [hL]
      exact num_ok t

/-- The verdict over a field's pieces. -/
def fieldV (S : List UInt8 → Nat × Item) : List (List UInt8) → Nat → Nat
  | [], v => v
  | p :: ps, v => fieldV S ps (if p = [] then worseN v 2 else worseN v (S p).1)
/-- What cron.getField makes of the pieces. -/
def fieldI (R : List UInt8 → Option Item) : List (List UInt8) → Nat → Option Nat
  | [], b => some b
  | p :: ps, b => match R p with
    | none => none
    | some i => fieldI R ps (b ||| i.bits)
def fieldB (S : List UInt8 → Nat × Item) : List (List UInt8) → Nat → Nat
  | [], b => b
  | p :: ps, b => fieldB S ps (b ||| (S p).2.bits)
theorem field_zero (S : List UInt8 → Nat × Item) (hS : ∀ p, (S p).1 ≤ 2) : ∀ (ps : List (List UInt8)) (v : Nat), v ≤ 2 → (fieldV S ps v = 0 ↔ v = 0 ∨ ∃ p ∈ ps, p ≠ [] ∧ (S p).1 = 0)
  | [], v, _ => by simp [fieldV]
  | p :: ps, v, hv => by
    unfold fieldV
    by_cases hp : p = []
    · rw [if_pos hp, field_zero S hS ps _ (worse_le hv (by omega))]
      constructor
      · rintro (h | ⟨q, h1, h2⟩)
        · rcases worse_zero h with h | h
          · exact Or.inl h
          · omega
        · exact Or.inr ⟨q, by simp [h1], h2⟩
      · rintro (h | ⟨q, h1, h2⟩)
        · exact Or.inl (by unfold worseN; rw [if_pos (Or.inl h)])
        · rcases List.mem_cons.1 h1 with rfl | h1
          · exact absurd hp h2.1
          · exact Or.inr ⟨q, h1, h2⟩
    · rw [if_neg hp, field_zero S hS ps _ (worse_le hv (hS p))]
      constructor
      · rintro (h | ⟨q, h1, h2⟩)
        · rcases worse_zero h with h | h
          · exact Or.inl h
          · exact Or.inr ⟨p, by simp, hp, h⟩
        · exact Or.inr ⟨q, by simp [h1], h2⟩
      · rintro (h | ⟨q, h1, h2⟩)
        · exact Or.inl (by unfold worseN; rw [if_pos (Or.inl h)])
        · rcases List.mem_cons.1 h1 with rfl | h1
          · exact Or.inl (by unfold worseN; rw [if_pos (Or.inr h2.2)])
          · exact Or.inr ⟨q, h1, h2⟩
theorem field_one (S : List UInt8 → Nat × Item) (hS : ∀ p, (S p).1 ≤ 2) : ∀ (ps : List (List UInt8)) (v : Nat), v ≤ 2 → fieldV S ps v = 1 → v = 1 ∧ ∀ p ∈ ps, p ≠ [] ∧ (S p).1 = 1
  | [], v, _, h => ⟨h, fun p hp => by cases hp⟩
  | p :: ps, v, hv, h => by
    unfold fieldV at h
    by_cases hp : p = []
    · rw [if_pos hp] at h
      have := (field_one S hS ps _ (worse_le hv (by omega)) h).1
      have := (worse_one hv (by omega) this).2
      omega
    · rw [if_neg hp] at h
      obtain ⟨h1, h2⟩ := field_one S hS ps _ (worse_le hv (hS p)) h
      obtain ⟨w1, w2⟩ := worse_one hv (hS p) h1
      refine ⟨w1, fun q hq => ?_⟩
      rcases List.mem_cons.1 hq with rfl | hq
      · exact ⟨hp, w2⟩
      · exact h2 q hq
theorem field_none (R : List UInt8 → Option Item) : ∀ (ps : List (List UInt8)) (b : Nat) (p : List UInt8), p ∈ ps → R p = none → fieldI R ps b = none
  | q :: ps, b, p, hp, h => by
    unfold fieldI
    rcases List.mem_cons.1 hp with rfl | hp
    · rw [h]
    · cases R q with
      | none => rfl
      | some i => exact field_none R ps _ p hp h
theorem field_some (S : List UInt8 → Nat × Item) (R : List UInt8 → Option Item) : ∀ (ps : List (List UInt8)) (b : Nat), (∀ p ∈ ps, R p = some (S p).2) → fieldI R ps b = some (fieldB S ps b)
  | [], b, _ => rfl
  | p :: ps, b, h => by
    unfold fieldI fieldB
    rw [h p (by simp)]
    exact field_some S R ps _ (fun q hq => h q (by simp [hq]))
/-- A field that the reference calls wrong is refused; one that it calls fine is read as the union of its items. -/
theorem field_ok (S : List UInt8 → Nat × Item) (R : List UInt8 → Option Item) (hS : ∀ p, (S p).1 ≤ 2) (h0 : ∀ p, (S p).1 = 0 → R p = none) (h1 : ∀ p, (S p).1 = 1 → R p = some (S p).2) (ps : List (List UInt8)) :
    (fieldV S ps 1 = 0 → fieldI R (ps.filter (fun z => !z.isEmpty)) 0 = none) ∧ (fieldV S ps 1 = 1 → fieldI R (ps.filter (fun z => !z.isEmpty)) 0 = some (fieldB S ps 0)) := by
  refine ⟨fun h => ?_, fun h => ?_⟩
  · rcases (field_zero S hS ps 1 (by omega)).1 h with h | ⟨p, hp, hne, hz⟩
    · omega
    · exact field_none R _ 0 p (List.mem_filter.2 ⟨hp, by cases p with | nil => exact absurd rfl hne | cons _ _ => rfl⟩) (h0 p hz)
  · obtain ⟨_, h2⟩ := field_one S hS ps 1 (by omega) h
    have e : ps.filter (fun z => !z.isEmpty) = ps := List.filter_eq_self.2 (fun p hp => by cases p with | nil => exact absurd rfl (h2 _ hp).1 | cons _ _ => rfl)
    rw [e]
    exact field_some S R ps 0 (fun p hp => h1 p (h2 p hp).2)
end Go.Proofs.YtkhggefbkhdimaaGreatDoor

namespace Go.Proofs.YtkhggefbkhdimaaGreatDoor
open Go.Lib
set_option linter.unusedVariables false

def bitAt (o : Option Item) (v : Nat) : Bool := match o with | some i => i.bits.testBit v | none => false
theorem fieldI_none (R : List UInt8 → Option Item) : ∀ (ps : List (List UInt8)) (b : Nat), fieldI R ps b = none ↔ ∃ p ∈ ps, R p = none
  | [], b => by simp [fieldI]
  | p :: ps, b => by
    unfold fieldI
    cases h : R p with
    | none => simp [h]
    | some i =>
      dsimp only
      rw [fieldI_none R ps]
      constructor
      · rintro ⟨q, h1, h2⟩; exact ⟨q, by simp [h1], h2⟩
      · rintro ⟨q, h1, h2⟩
        rcases List.mem_cons.1 h1 with rfl | h1
        · rw [h] at h2; cases h2
        · exact ⟨q, h1, h2⟩
theorem fieldI_bit (R : List UInt8 → Option Item) : ∀ (ps : List (List UInt8)) (b x : Nat), fieldI R ps b = some x → ∀ v, x.testBit v = (b.testBit v || ps.any (fun p => bitAt (R p) v))
  | [], b, x, h, v => by simp only [fieldI] at h; have := Option.some.inj h; subst this; simp
  | p :: ps, b, x, h, v => by
    unfold fieldI at h
    cases hp : R p with
    | none => rw [hp] at h; cases h
    | some i =>
      rw [hp] at h
      dsimp only at h
      rw [fieldI_bit R ps _ x h v, Nat.testBit_or, List.any_cons, hp]
      simp only [bitAt, Bool.or_assoc]
theorem fieldI_mem (R : List UInt8 → Option Item) (ps qs : List (List UInt8)) (h : ∀ p, p ∈ ps ↔ p ∈ qs) : fieldI R ps 0 = fieldI R qs 0 := by
  cases h1 : fieldI R ps 0 with
  | none =>
    obtain ⟨p, hp, hn⟩ := (fieldI_none R ps 0).1 h1
    exact ((fieldI_none R qs 0).2 ⟨p, (h p).1 hp, hn⟩).symm
  | some x =>
    cases h2 : fieldI R qs 0 with
    | none =>
      obtain ⟨p, hp, hn⟩ := (fieldI_none R qs 0).1 h2
      rw [(fieldI_none R ps 0).2 ⟨p, (h p).2 hp, hn⟩] at h1
      cases h1
    | some y =>
      congr 1
      refine Nat.eq_of_testBit_eq (fun v => ?_)
      rw [fieldI_bit R ps 0 x h1 v, fieldI_bit R qs 0 y h2 v]
      congr 1
      rw [Bool.eq_iff_iff, List.any_eq_true, List.any_eq_true]
      exact ⟨fun ⟨p, a, b⟩ => ⟨p, (h p).1 a, b⟩, fun ⟨p, a, b⟩ => ⟨p, (h p).2 a, b⟩⟩
/-- Texts with commas between them. -/
def joinC : List (List UInt8) → List UInt8
  | [] => []
  | [p] => p
  | p :: q :: ps => p ++ 44 :: joinC (q :: ps)
theorem cut_free : ∀ (p : List UInt8), (∀ x ∈ p, x.toNat ≠ 44) → cutL 44 p = [p]
  | [], _ => rfl
  | x :: p, h => by
    have hx : ((x.toNat : Int) == 44) = false := by simp only [beq_eq_false_iff_ne]; have := h x (by simp); omega
    rw [cutL, hx, cut_free p (fun y hy => h y (by simp [hy]))]
    simp
theorem cut_sep : ∀ (p r : List UInt8), (∀ x ∈ p, x.toNat ≠ 44) → cutL 44 (p ++ 44 :: r) = p :: cutL 44 r
  | [], r, _ => by
    show cutL 44 (44 :: r) = _
    rw [cutL]
    simp
  | x :: p, r, h => by
    have hx : ((x.toNat : Int) == 44) = false := by simp only [beq_eq_false_iff_ne]; have := h x (by simp); omega
    rw [List.cons_append, cutL, hx, cut_sep p r (fun y hy => h y (by simp [hy]))]
    simp
theorem cut_join : ∀ (ps : List (List UInt8)), ps ≠ [] → (∀ p ∈ ps, ∀ x ∈ p, x.toNat ≠ 44) → cutL 44 (joinC ps) = ps
  | [], h, _ => absurd rfl h
  | [p], _, h => cut_free p (h p (by simp))
  | p :: q :: ps, _, h => by
    unfold joinC
    rw [cut_sep p _ (h p (by simp)), cut_join (q :: ps) (by simp) (fun y hy => h y (by simp [hy]))]
end Go.Proofs.YtkhggefbkhdimaaGreatDoor

namespace Go.Proofs.YtkhggefbkhdimaaGreatDoor
open Go.Lib
set_option linter.unusedVariables false

theorem item_high (lo hi : Nat) (days : Bool) (V : List UInt8 → Nat × Nat) (t : List UInt8) (h : (itemS lo hi days V t).1 = 1) : (itemS lo hi days V t).2.high ≤ hi := by
  have key : ∀ two E k, (finS lo hi two E k).1 = 1 → (finS lo hi two E k).2.high ≤ hi := by
    intro two E k h
    unfold finS at h ⊢
    dsimp only at h ⊢
    by_cases h1 : worseN E.2 k.2 ≠ 1
    · rw [if_pos h1] at h; exact absurd h h1
    · rw [if_neg h1] at h ⊢
      by_cases h2 : E.1.low < lo ∨ hi < (if (two && E.1.single && !E.1.star) = true then hi else E.1.high) ∨ (if (two && E.1.single && !E.1.star) = true then hi else E.1.high) < E.1.low
      · rw [if_pos h2] at h; cases h
      · rw [if_neg h2]
        dsimp only
        omega
  unfold itemS at h ⊢
  match hc : cutL 47 t with
  | [] => rw [hc] at h; cases h
  | [p0] => rw [hc] at h; exact key _ _ _ h
  | [p0, p1] => rw [hc] at h; exact key _ _ _ h
  | _ :: _ :: _ :: _ => rw [hc] at h; cases h
theorem itemS_le (lo hi : Nat) (days : Bool) (V : List UInt8 → Nat × Nat) (hV : ∀ t, (V t).2 ≤ 2) (t : List UInt8) : (itemS lo hi days V t).1 ≤ 2 := by
  have hE : ∀ t, (endsS lo hi days V t).2 ≤ 2 := by
    intro t
    unfold endsS
    split
    · exact Nat.zero_le _
    · split
      · dsimp only; split <;> omega
      · split
        · exact hV _
        · exact worse_le (hV _) (hV _)
        · exact Nat.zero_le _
  have key : ∀ two E k, E.2 ≤ 2 → k.2 ≤ 2 → (finS lo hi two E k).1 ≤ 2 := by
    intro two E k h1 h2
    unfold finS
    dsimp only
    by_cases h3 : worseN E.2 k.2 ≠ 1
    · rw [if_pos h3]; exact worse_le h1 h2
    · rw [if_neg h3]
      generalize (if (two && E.1.single && !E.1.star) = true then hi else E.1.high) = q
      split <;> simp
  unfold itemS
  split
  · exact key _ _ _ (hE _) (by decide)
  · exact key _ _ _ (hE _) (step_ok _).1
  · exact Nat.zero_le _
theorem item_bit (i : Item) (h : i.high ≤ 62) (v : Nat) : i.bits.testBit v = (steps i.low i.high i.step v || (i.star && decide (v = 63))) := by
  unfold Item.bits
  rw [Nat.testBit_or]
  have h1 : (GB i.low i.high i.step).testBit v = steps i.low i.high i.step v := by
    by_cases hv : v < 64
    · exact GB_bit _ _ _ _ hv
    · have h2 : (GB i.low i.high i.step).testBit v = false := Nat.testBit_lt_two_pow (Nat.lt_of_lt_of_le (GB_lt _ _ _) (by rw [show 18446744073709551616 = 2 ^ 64 from rfl]; exact Nat.pow_le_pow_right (by decide) (by omega)))
      have h3 : steps i.low i.high i.step v = false := by
        unfold steps
        have : decide (v ≤ i.high) = false := decide_eq_false (by omega)
        rw [this]; simp
      rw [h2, h3]
  rw [h1]
  congr 1
  cases i.star with
  | false => simp
  | true =>
    rw [if_pos rfl, show 9223372036854775808 = 2 ^ 63 from rfl, Nat.testBit_two_pow, Bool.true_and]
    exact decide_eq_decide.2 ⟨fun h => h.symm, fun h => h.symm⟩
theorem fieldB_bit (S : List UInt8 → Nat × Item) : ∀ (ps : List (List UInt8)) (b v : Nat), (fieldB S ps b).testBit v = (b.testBit v || ps.any (fun p => (S p).2.bits.testBit v))
  | [], b, v => by simp [fieldB]
  | p :: ps, b, v => by
    unfold fieldB
    rw [fieldB_bit S ps, Nat.testBit_or, List.any_cons, Bool.or_assoc]
/-- The values and the star of the union of the items that are fine. -/
def memF (S : List UInt8 → Nat × Item) (ps : List (List UInt8)) (v : Nat) : Bool := ps.any (fun p => !p.isEmpty && decide ((S p).1 = 1) && steps (S p).2.low (S p).2.high (S p).2.step v)
def memS (S : List UInt8 → Nat × Item) (ps : List (List UInt8)) : Bool := ps.any (fun p => !p.isEmpty && decide ((S p).1 = 1) && (S p).2.star)
theorem any_or {α : Type} (f g : α → Bool) : ∀ l : List α, l.any (fun x => f x || g x) = (l.any f || l.any g)
  | [] => rfl
  | a :: l => by rw [List.any_cons, List.any_cons, List.any_cons, any_or f g l]; cases f a <;> cases g a <;> cases l.any f <;> simp
theorem any_congr' {α : Type} (f g : α → Bool) : ∀ l : List α, (∀ x ∈ l, f x = g x) → l.any f = l.any g
  | [], _ => rfl
  | a :: l, h => by rw [List.any_cons, List.any_cons, h a (by simp), any_congr' f g l (fun x hx => h x (by simp [hx]))]
theorem set_bits (S : List UInt8 → Nat × Item) (ps : List (List UInt8)) (hall : ∀ p ∈ ps, p ≠ [] ∧ (S p).1 = 1) (hh : ∀ p ∈ ps, (S p).2.high ≤ 62) :
    setOf (fun i => decide (i < 63) && memF S ps i) ||| (if memS S ps = true then 9223372036854775808 else 0) = fieldB S ps 0 := by
  have e1 : ∀ v, memF S ps v = ps.any (fun p => steps (S p).2.low (S p).2.high (S p).2.step v) := fun v => any_congr' _ _ ps (fun p hp => by
    have h1 := (hall p hp).1
    have h2 := (hall p hp).2
    cases p with
    | nil => exact absurd rfl h1
    | cons a b => simp [h2])
  have e2 : memS S ps = ps.any (fun p => (S p).2.star) := any_congr' _ _ ps (fun p hp => by
    have h1 := (hall p hp).1
    have h2 := (hall p hp).2
    cases p with
    | nil => exact absurd rfl h1
    | cons a b => simp [h2])
  refine Nat.eq_of_testBit_eq (fun v => ?_)
  rw [Nat.testBit_or, setOf_bit, fieldB_bit, Nat.zero_testBit, Bool.false_or, e1, e2]
  rw [any_congr' (fun p => (S p).2.bits.testBit v) (fun p => steps (S p).2.low (S p).2.high (S p).2.step v || ((S p).2.star && decide (v = 63))) ps (fun p hp => item_bit _ (hh p hp) v), any_or]
  have e3 : (if (ps.any fun p => (S p).2.star) = true then 9223372036854775808 else 0 : Nat).testBit v = ps.any (fun p => (S p).2.star && decide (v = 63)) := by
    by_cases hv : v = 63
    · subst hv
      simp only [decide_true, Bool.and_true]
      cases ps.any (fun p => (S p).2.star) <;> decide
    · simp only [hv, decide_false, Bool.and_false]
      have h0 : ps.any (fun _ => false) = false := by simp
      rw [h0]
      split
      · rw [show 9223372036854775808 = 2 ^ 63 from rfl, Nat.testBit_two_pow]
        exact decide_eq_false (fun h => hv h.symm)
      · exact Nat.zero_testBit _
  rw [e3]
  congr 1
  by_cases hv : v < 63
  · simp [hv, show v < 64 by omega]
  · have h0 : ps.any (fun p => steps (S p).2.low (S p).2.high (S p).2.step v) = false := by
      rw [any_congr' _ (fun _ => false) ps (fun p hp => by
        unfold steps
        have : decide (v ≤ (S p).2.high) = false := decide_eq_false (by have := hh p hp; omega)
        rw [this]; simp)]
      simp
    rw [h0]
    simp
end Go.Proofs.YtkhggefbkhdimaaGreatDoor
