/- Plain: the decimal numeral of a number, parsed and parted. -/
import Derived.Test.YtkhggefbkhdimaaGreatDoorGPa
import Derived.Lib.AtoiAll
import Derived.Lib.ItoaNum
import Derived.Lib.ItoaMem
namespace Go.Proofs.YtkhggefbkhdimaaGreatDoor
set_option linter.unusedVariables false
set_option linter.unusedSimpArgs false

theorem ofNat_digit (d : Nat) (h : d < 10) : (UInt8.ofNat (48 + d)).toNat = 48 + d := by
  rw [UInt8.toNat_ofNat']
  omega

theorem dec_digits (u : Nat) : ∀ c ∈ Lib.decDigits u, 48 ≤ c.toNat ∧ c.toNat ≤ 57 := by
  induction u using Nat.strongRecOn with
  | ind u ih =>
    intro c hc
    by_cases h : u < 10
    · rw [Lib.decDigits_one h] at hc
      rw [List.mem_singleton] at hc
      subst hc
      have := ofNat_digit u h
      constructor <;> omega
    · rw [Lib.decDigits, dif_neg h] at hc
      rcases List.mem_append.mp hc with h2 | h2
      · exact ih (u / 10) (by omega) c h2
      · rw [List.mem_singleton] at h2
        subst h2
        have := ofNat_digit (u % 10) (by omega)
        omega

theorem dec_ne (u : Nat) : Lib.decDigits u ≠ [] := by
  by_cases h : u < 10
  · rw [Lib.decDigits_one h]; simp
  · rw [Lib.decDigits, dif_neg h]; simp

theorem dec_parse (u : Nat) : ∀ r, u < 18446744073709551616 → Lib.parseUint10 0 (Lib.decDigits u ++ r) = Lib.parseUint10 u r := by
  induction u using Nat.strongRecOn with
  | ind u ih =>
    intro r hu
    by_cases h : u < 10
    · rw [Lib.decDigits_one h]
      have e := ofNat_digit u h
      show Lib.parseUint10 0 (UInt8.ofNat (48 + u) :: r) = _
      rw [Lib.parseUint10, e, if_pos (by omega), if_neg (by omega), if_neg (by omega)]
      congr 1
      omega
    · rw [Lib.decDigits, dif_neg h, List.append_assoc, ih (u / 10) (by omega) _ (by omega)]
      have e := ofNat_digit (u % 10) (by omega)
      show Lib.parseUint10 (u / 10) (UInt8.ofNat (48 + u % 10) :: r) = _
      rw [Lib.parseUint10, e, if_pos (by omega), if_neg (by omega), if_neg (by omega)]
      congr 1
      omega

theorem dec_atoi (u : Nat) (hu : u < 9223372036854775808) : Lib.atoiAll (Lib.decDigits u) = .ok (u : Int) := by
  have hp : Lib.parseMag (Lib.decDigits u) = .ok u := by
    unfold Lib.parseMag
    rw [if_neg (dec_ne u)]
    have := dec_parse u [] (by omega)
    rw [List.append_nil] at this
    rw [this]; rfl
  cases hl : Lib.decDigits u with
  | nil => exact absurd hl (dec_ne u)
  | cons c r =>
    have hc := dec_digits u c (by rw [hl]; simp)
    rw [hl] at hp
    unfold Lib.atoiAll
    have h1 : ¬ (c.toNat = 43 ∨ c.toNat = 45) := by omega
    have h2 : ¬ c.toNat = 45 := by omega
    dsimp only
    rw [if_neg h1, hp]
    dsimp only
    rw [if_neg (by omega), if_neg (by omega), if_neg h2]

theorem cutL_free (c : Int) (l : List UInt8) (h : ∀ x ∈ l, (x.toNat : Int) ≠ c) : cutL c l = [l] := by
  induction l with
  | nil => rfl
  | cons x xs ih =>
    have hx : ((x.toNat : Int) == c) = false := by simpa using h x (by simp)
    unfold cutL
    rw [hx, ih (fun y hy => h y (by simp [hy]))]
    simp

theorem cutL_sep (c : Int) (l : List UInt8) (s : UInt8) (r : List UInt8) (h : ∀ x ∈ l, (x.toNat : Int) ≠ c) (hs : (s.toNat : Int) = c) : cutL c (l ++ s :: r) = l :: cutL c r := by
  induction l with
  | nil =>
    have hx : ((s.toNat : Int) == c) = true := by simpa using hs
    show cutL c (s :: r) = _
    rw [cutL, hx]; rfl
  | cons x xs ih =>
    have hx : ((x.toNat : Int) == c) = false := by simpa using h x (by simp)
    show cutL c (x :: (xs ++ s :: r)) = _
    rw [cutL, hx, ih (fun y hy => h y (by simp [hy]))]
    rfl

/-- The decimal numeral as a text. -/
def decT (u : Nat) : ByteArray := ⟨(Lib.decDigits u).toArray⟩
theorem decT_list (u : Nat) : (decT u).data.toList = Lib.decDigits u := by unfold decT; simp
theorem decT_free (c : Int) (h : c < 48 ∨ 57 < c) (u : Nat) : ∀ x ∈ (decT u).data.toList, (x.toNat : Int) ≠ c := by
  intro x hx
  rw [decT_list] at hx
  have := dec_digits u x hx
  omega
theorem cat_list (A B : ByteArray) : (A ++ B).data.toList = A.data.toList ++ B.data.toList := by
  simp [ByteArray.data_append]
theorem back (s : ByteArray) : (⟨s.data.toList.toArray⟩ : ByteArray) = s := by cases s; simp

theorem cutB_free (c : Int) (s : ByteArray) (h : ∀ x ∈ s.data.toList, (x.toNat : Int) ≠ c) : cutB c s = [s] := by
  unfold cutB
  rw [cutL_free c _ h]
  simp [back]
theorem cutB_sep (c : Int) (A B : ByteArray) (s : UInt8) (h : ∀ x ∈ A.data.toList, (x.toNat : Int) ≠ c) (hs : (s.toNat : Int) = c) : cutB c (A ++ ⟨#[s]⟩ ++ B) = A :: cutB c B := by
  unfold cutB
  have e : (A ++ ⟨#[s]⟩ ++ B).data.toList = A.data.toList ++ s :: B.data.toList := by
    rw [cat_list, cat_list]; simp
  rw [e, cutL_sep c _ s _ h hs]
  simp [back]

/-- "a-b". -/
def rangeT (a b : Nat) : ByteArray := decT a ++ ⟨#[45]⟩ ++ decT b
theorem range_free (a b : Nat) : ∀ x ∈ (rangeT a b).data.toList, (x.toNat : Int) ≠ 47 := by
  intro x hx
  unfold rangeT at hx
  rw [cat_list, cat_list] at hx
  rcases List.mem_append.mp hx with h | h
  · rcases List.mem_append.mp h with h | h
    · exact decT_free 47 (by omega) a x h
    · have h2 : x = 45 := by simpa using h
      subst h2; decide
  · exact decT_free 47 (by omega) b x h
theorem cut_range (a b : Nat) : cutB 45 (rangeT a b) = [decT a, decT b] := by
  unfold rangeT
  rw [cutB_sep 45 _ _ 45 (decT_free 45 (by omega) a) (by decide), cutB_free 45 _ (decT_free 45 (by omega) b)]
theorem cut_plain (a b : Nat) : cutB 47 (rangeT a b) = [rangeT a b] := cutB_free 47 _ (range_free a b)
theorem cut_step (a b k : Nat) : cutB 47 (rangeT a b ++ ⟨#[47]⟩ ++ decT k) = [rangeT a b, decT k] := by
  rw [cutB_sep 47 _ _ 47 (range_free a b) (by decide), cutB_free 47 _ (decT_free 47 (by omega) k)]
theorem decT_star (c : Nat) (h : c < 48 ∨ 57 < c) (u : Nat) (s : UInt8) (hs : s.toNat = c) : ((decT u).toList == [s]) = false := by
  rw [beq_eq_false_iff_ne]
  intro e
  have e2 : (decT u).data.toList = [s] := by rw [← e]; exact (ByteArray.toList_eq _).symm
  have := decT_free (c : Int) (by omega) u s (by rw [e2]; simp)
  omega
theorem dec_len (u : Nat) (hu : u < 18446744073709551616) : (Lib.decDigits u).length ≤ 20 := by
  rw [Lib.decDigits_length]
  by_cases h1 : 1 ≤ u
  · have := Lib.numDigits_eq u h1 hu; split at this <;> omega
  · have : u = 0 := by omega
    subst this
    rw [Lib.nDigits_small (by omega)]; omega
theorem decT_size (u : Nat) (hu : u < 18446744073709551616) : (decT u).size ≤ 20 := by
  have := dec_len u hu
  show (Lib.decDigits u).toArray.size ≤ 20
  simpa using this
theorem rangeT_size (a b : Nat) (ha : a < 18446744073709551616) (hb : b < 18446744073709551616) : (rangeT a b).size ≤ 41 := by
  have h1 := decT_size a ha
  have h2 := decT_size b hb
  unfold rangeT
  rw [ByteArray.size_append, ByteArray.size_append]
  have : (⟨#[45]⟩ : ByteArray).size = 1 := rfl
  omega
end Go.Proofs.YtkhggefbkhdimaaGreatDoor
