/- Numerals: spec.CronNumber and cron.mustParseInt, plain. -/
import Derived.Test.YtkhggefbkhdimaaDoorPCut
import Derived.Lib.AtoiAll
namespace Go.Proofs.YtkhggefbkhdimaaDoor
open Go.Lib
set_option linter.unusedVariables false

abbrev hugeN : Nat := 1099511627776
def digB (c : UInt8) : Bool := decide (48 ≤ c.toNat) && decide (c.toNat ≤ 57)
def satStep (n : Nat) (c : UInt8) : Nat := min (10 * n + (c.toNat - 48)) hugeN
def zerosB (l : List UInt8) : Bool := l.all (fun c => c.toNat == 48)
/-- What stands behind a sign that is left open, and the verdict so far. -/
def signL : List UInt8 → List UInt8 × Nat
  | [] => ([], 1)
  | c :: r => if c.toNat = 43 ∨ (c.toNat = 45 ∧ zerosB r = true) then (r, 2) else (c :: r, 1)
/-- spec.CronNumber. -/
def cnum (l : List UInt8) : Nat × Nat :=
  if (signL l).1 = [] then (0, 0) else if (signL l).1.all digB = true then ((signL l).1.foldl satStep 0, (signL l).2) else (0, 0)
/-- cron.mustParseInt. -/
def mustI (l : List UInt8) : Option Nat := match atoiAll l with
  | .ok v => if v < 0 then none else some v.toNat
  | _ => none

theorem signL_cons (c : UInt8) (r : List UInt8) : signL (c :: r) = if c.toNat = 43 ∨ (c.toNat = 45 ∧ zerosB r = true) then (r, 2) else (c :: r, 1) := rfl
theorem sat_le (n : Nat) (c : UInt8) : satStep n c ≤ hugeN := Nat.min_le_right _ _
theorem sat_huge : ∀ l : List UInt8, l.foldl satStep hugeN = hugeN
  | [] => rfl
  | c :: l => by
    rw [List.foldl_cons, show satStep hugeN c = hugeN by unfold satStep hugeN; omega]
    exact sat_huge l
theorem fold_le : ∀ (l : List UInt8) (n : Nat), n ≤ hugeN → l.foldl satStep n ≤ hugeN
  | [], n, h => h
  | c :: l, n, _ => by rw [List.foldl_cons]; exact fold_le l _ (sat_le n c)
theorem cnum_le (l : List UInt8) : (cnum l).1 ≤ hugeN := by
  unfold cnum
  split
  · exact Nat.zero_le _
  · split
    · exact fold_le _ _ (Nat.zero_le _)
    · exact Nat.zero_le _
theorem par_dig : ∀ (l : List UInt8) (acc s : Nat), l.all digB = true → s = min acc hugeN →
    (∀ u, parseUint10 acc l = .ok u → l.foldl satStep s = min u hugeN) ∧ ((∀ u, parseUint10 acc l ≠ .ok u) → l.foldl satStep s = hugeN)
  | [], acc, s, _, hs => ⟨fun u h => by simp only [parseUint10] at h; injection h with h; subst h; exact hs, fun h => absurd rfl (h acc)⟩
  | c :: l, acc, s, hl, hs => by
    rw [List.all_cons, Bool.and_eq_true] at hl
    have hd := hl.1
    unfold digB at hd
    simp only [Bool.and_eq_true, decide_eq_true_eq] at hd
    have hst : satStep s c = min (acc * 10 + (c.toNat - 48)) hugeN := by unfold satStep hugeN; unfold hugeN at hs; omega
    rw [List.foldl_cons]
    simp only [parseUint10]
    rw [if_pos hd]
    by_cases h1 : 1844674407370955162 ≤ acc
    · rw [if_pos h1]
      have : satStep s c = hugeN := by rw [hst]; unfold hugeN; omega
      rw [this, sat_huge]
      exact ⟨(fun u h => by cases h), fun _ => rfl⟩
    · rw [if_neg h1]
      by_cases h2 : 18446744073709551616 ≤ acc * 10 + (c.toNat - 48)
      · rw [if_pos h2]
        have : satStep s c = hugeN := by rw [hst]; unfold hugeN; omega
        rw [this, sat_huge]
        exact ⟨(fun u h => by cases h), fun _ => rfl⟩
      · rw [if_neg h2]
        exact par_dig l _ _ hl.2 hst
theorem par_bad : ∀ (l : List UInt8) (acc u : Nat), l.all digB = false → parseUint10 acc l ≠ .ok u
  | [], acc, u, h => by simp at h
  | c :: l, acc, u, h => by
    simp only [parseUint10]
    by_cases hd : 48 ≤ c.toNat ∧ c.toNat ≤ 57
    · rw [if_pos hd]
      split
      · intro h2; cases h2
      · split
        · intro h2; cases h2
        · refine par_bad l _ u ?_
          have hc : digB c = true := by unfold digB; simp [hd.1, hd.2]
          rw [List.all_cons, hc] at h
          simpa using h
    · rw [if_neg hd]
      intro h2; cases h2
/-- A wrong numeral is refused. -/
theorem num_bad (l : List UInt8) (h : (cnum l).2 = 0) : mustI l = none := by
  unfold mustI
  cases l with
  | nil => rfl
  | cons c r =>
    unfold cnum at h
    rw [signL_cons] at h
    unfold atoiAll parseMag
    by_cases hs : c.toNat = 43 ∨ (c.toNat = 45 ∧ zerosB r = true)
    · rw [if_pos hs] at h
      dsimp only at h ⊢
      have hs2 : c.toNat = 43 ∨ c.toNat = 45 := by rcases hs with h | h; exact Or.inl h; exact Or.inr h.1
      rw [if_pos hs2]
      by_cases hr : r = []
      · rw [if_pos hr]
      · rw [if_neg hr]
        rw [if_neg hr] at h
        by_cases ha : r.all digB = true
        · rw [if_pos ha] at h; simp at h
        · have hb := par_bad r 0
          cases hp : parseUint10 0 r with
          | ok u => exact absurd hp (hb u (by simpa using ha))
          | _ => rfl
    · rw [if_neg hs] at h
      dsimp only at h ⊢
      rw [if_neg (by simp)] at h
      by_cases ha : (c :: r).all digB = true
      · rw [if_pos ha] at h; simp at h
      · by_cases hs2 : c.toNat = 43 ∨ c.toNat = 45
        · have h45 : c.toNat = 45 := by rcases hs2 with e | e; exact absurd (Or.inl e) hs; exact e
          rw [if_pos hs2]
          by_cases hr : r = []
          · rw [if_pos hr]
          · rw [if_neg hr]
            cases hp : parseUint10 0 r with
            | ok u =>
              dsimp only
              rw [if_neg (by omega)]
              by_cases hbig : 9223372036854775808 < u
              · rw [if_pos ⟨h45, hbig⟩]
              · rw [if_neg (fun h => hbig h.2), if_pos h45]
                dsimp only
                have hz : zerosB r = false := by
                  cases hz : zerosB r with
                  | true => exact absurd (Or.inr ⟨h45, hz⟩) hs
                  | false => rfl
                have hu : 0 < u := by
                  refine Nat.pos_of_ne_zero (fun h0 => ?_)
                  subst h0
                  have hnz : ∀ (l : List UInt8) (acc : Nat), parseUint10 acc l = .ok 0 → acc = 0 ∧ zerosB l = true := by
                    intro l
                    induction l with
                    | nil => intro acc h; simp only [parseUint10] at h; injection h with h; exact ⟨h, rfl⟩
                    | cons x xs ih =>
                      intro acc h
                      simp only [parseUint10] at h
                      split at h
                      · split at h
                        · cases h
                        · split at h
                          · cases h
                          · have := ih _ h
                            refine ⟨by omega, ?_⟩
                            unfold zerosB at this ⊢
                            rw [List.all_cons, this.2, Bool.and_true]
                            simp only [beq_iff_eq]
                            omega
                      · cases h
                  rw [(hnz r 0 hp).2] at hz
                  cases hz
                rw [if_pos (by omega)]
            | _ => rfl
        · rw [if_neg hs2, if_neg (by simp)]
          have hb := par_bad (c :: r) 0
          cases hp : parseUint10 0 (c :: r) with
          | ok u => exact absurd hp (hb u (by simpa using ha))
          | _ => rfl
/-- A numeral without a sign is read. -/
theorem num_fine (l : List UInt8) (h : (cnum l).2 = 1) : ((cnum l).1 < hugeN → mustI l = some (cnum l).1) ∧ ((cnum l).1 = hugeN → ∀ v, mustI l = some v → hugeN ≤ v) := by
  cases l with
  | nil => simp [cnum, signL] at h
  | cons c r =>
    by_cases hs : c.toNat = 43 ∨ (c.toNat = 45 ∧ zerosB r = true)
    · unfold cnum at h
      rw [signL_cons, if_pos hs] at h
      dsimp only at h
      split at h
      · simp at h
      · split at h <;> simp at h
    · have e : cnum (c :: r) = if (c :: r).all digB = true then ((c :: r).foldl satStep 0, 1) else (0, 0) := by
        unfold cnum
        rw [signL_cons, if_neg hs]
        dsimp only
        rw [if_neg (by simp)]
      rw [e] at h ⊢
      by_cases ha : (c :: r).all digB = true
      · rw [if_pos ha]
        have hc : 48 ≤ c.toNat ∧ c.toNat ≤ 57 := by
          have := ha
          rw [List.all_cons, Bool.and_eq_true] at this
          have := this.1
          unfold digB at this
          simpa using this
        have hp := par_dig (c :: r) 0 0 ha (by simp)
        have em : mustI (c :: r) = match parseUint10 0 (c :: r) with | .ok u => (if 9223372036854775808 ≤ u then none else some u) | _ => none := by
          unfold mustI atoiAll parseMag
          dsimp only
          rw [if_neg (show ¬(c.toNat = 43 ∨ c.toNat = 45) by omega), if_neg (by simp)]
          cases hq : parseUint10 0 (c :: r) with
          | ok u =>
            dsimp only
            by_cases hb : 9223372036854775808 ≤ u
            · rw [if_pos ⟨by omega, hb⟩, if_pos hb]
            · rw [if_neg (fun h => hb h.2), if_neg (fun h => by omega), if_neg (by omega), if_neg hb]
              dsimp only
              rw [if_neg (by omega)]
              simp
          | _ => rfl
        rw [em]
        dsimp only
        cases hq : parseUint10 0 (c :: r) with
        | ok u =>
          have hf := hp.1 u hq
          rw [hf]
          unfold hugeN
          refine ⟨fun hl => ?_, fun hh v hv => ?_⟩
          · dsimp only
            rw [if_neg (by omega)]
            congr 1
            omega
          · dsimp only at hv
            split at hv
            · cases hv
            · have := Option.some.inj hv
              omega
        | _ => exact ⟨fun hl => by have := hp.2 (fun u h2 => by rw [hq] at h2; cases h2); omega, fun _ v hv => by cases hv⟩
      · rw [if_neg ha] at h; simp at h
end Go.Proofs.YtkhggefbkhdimaaDoor
