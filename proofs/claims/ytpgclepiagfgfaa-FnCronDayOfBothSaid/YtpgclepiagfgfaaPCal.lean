/- The calendar, plain: days since the first day of 1970, years, months, days. -/
namespace Go.Proofs.Ytpgclepiagfgfaa
set_option linter.unusedVariables false
set_option linter.unusedSimpArgs false

def leapN (y : Int) : Int := if y % 4 = 0 ∧ (y % 100 ≠ 0 ∨ y % 400 = 0) then 1 else 0
def mdays (y m : Int) : Int := if m = 2 then 28 + leapN y else if m = 4 ∨ m = 6 ∨ m = 9 ∨ m = 11 then 30 else 31
def ystart (y : Int) : Int := 365 * (y - 1) + (y - 1) / 4 - (y - 1) / 100 + (y - 1) / 400 - 719162
/-- Days of a year ahead of month m (1 to 13). -/
def cumD (y m : Int) : Int :=
  if m ≤ 1 then 0 else if m = 2 then 31 else (if m = 3 then 59 else if m = 4 then 90 else if m = 5 then 120 else if m = 6 then 151 else if m = 7 then 181 else if m = 8 then 212
    else if m = 9 then 243 else if m = 10 then 273 else if m = 11 then 304 else if m = 12 then 334 else 365) + leapN y
def dayNo (y m d : Int) : Int := ystart y + cumD y m + d - 1
/-- Day n has the date y, m, d. -/
def IsDate (n y m d : Int) : Prop := 1 ≤ m ∧ m ≤ 12 ∧ 1 ≤ d ∧ d ≤ mdays y m ∧ n = dayNo y m d

theorem leapN_01 (y : Int) : leapN y = 0 ∨ leapN y = 1 := by unfold leapN; split <;> simp
theorem leapN_eq (y : Int) : leapN y = y / 4 - (y - 1) / 4 - (y / 100 - (y - 1) / 100) + (y / 400 - (y - 1) / 400) := by
  unfold leapN; split <;> omega
theorem ystart_succ (y : Int) : ystart (y + 1) = ystart y + 365 + leapN y := by
  rw [leapN_eq]; unfold ystart; rw [show y + 1 - 1 = y by omega]; omega
theorem month_cases {m : Int} (h1 : 1 ≤ m) (h2 : m ≤ 12) : m = 1 ∨ m = 2 ∨ m = 3 ∨ m = 4 ∨ m = 5 ∨ m = 6 ∨ m = 7 ∨ m = 8 ∨ m = 9 ∨ m = 10 ∨ m = 11 ∨ m = 12 := by omega
theorem cumD_succ (y m : Int) (h1 : 1 ≤ m) (h2 : m ≤ 12) : cumD y (m + 1) = cumD y m + mdays y m := by
  rcases month_cases h1 h2 with rfl | rfl | rfl | rfl | rfl | rfl | rfl | rfl | rfl | rfl | rfl | rfl <;> simp [cumD, mdays] <;> omega
theorem mdays_bd (y m : Int) : 28 ≤ mdays y m ∧ mdays y m ≤ 31 := by
  have := leapN_01 y
  unfold mdays; split <;> (try split) <;> omega
theorem cumD_bd (y m : Int) (h1 : 1 ≤ m) (h2 : m ≤ 12) : 0 ≤ cumD y m ∧ cumD y m + mdays y m ≤ 365 + leapN y := by
  have := leapN_01 y
  rcases month_cases h1 h2 with rfl | rfl | rfl | rfl | rfl | rfl | rfl | rfl | rfl | rfl | rfl | rfl <;> simp [cumD, mdays] <;> omega
theorem cumD_mono (y m k : Int) (h1 : 1 ≤ m) (h : m < k) (h2 : k ≤ 12) : cumD y m + mdays y m ≤ cumD y k := by
  have := leapN_01 y
  rcases month_cases h1 (by omega) with rfl | rfl | rfl | rfl | rfl | rfl | rfl | rfl | rfl | rfl | rfl | rfl <;>
    rcases month_cases (m := k) (by omega) h2 with rfl | rfl | rfl | rfl | rfl | rfl | rfl | rfl | rfl | rfl | rfl | rfl <;> simp [cumD, mdays] <;> omega
theorem ystart_mono {a b : Int} (h : a ≤ b) : ystart a ≤ ystart b := by unfold ystart; omega
theorem IsDate.inYear {n y m d : Int} (h : IsDate n y m d) : ystart y ≤ n ∧ n < ystart (y + 1) := by
  obtain ⟨h1, h2, h3, h4, rfl⟩ := h
  have := cumD_bd y m h1 h2
  rw [ystart_succ]; unfold dayNo; omega
theorem IsDate.yearLe {n n' y m d y' m' d' : Int} (h : IsDate n y m d) (h' : IsDate n' y' m' d') (hn : n ≤ n') : y ≤ y' := by
  have a := h.inYear; have b := h'.inYear
  rcases (show y' < y ∨ y ≤ y' by omega) with hl | hl
  · have := ystart_mono (show y' + 1 ≤ y by omega); omega
  · exact hl
theorem IsDate.unique {n y m d y' m' d' : Int} (h : IsDate n y m d) (h' : IsDate n y' m' d') : y = y' ∧ m = m' ∧ d = d' := by
  have e : y = y' := by have a := h.yearLe h' (Int.le_refl _); have b := h'.yearLe h (Int.le_refl _); omega
  subst e
  obtain ⟨h1, h2, h3, h4, h5⟩ := h
  obtain ⟨k1, k2, k3, k4, k5⟩ := h'
  unfold dayNo at h5 k5
  have hm : m = m' := by
    rcases Int.lt_trichotomy m m' with l | l | l
    · have := cumD_mono y m m' h1 l k2; omega
    · exact l
    · have := cumD_mono y m' m k1 l h2; omega
  subst hm
  omega

/-- The date of a day by the calendar that begins in March. -/
def marchDay (n : Int) : Int := n + 719468
def marchC (n : Int) : Int := (4 * marchDay n + 3) / 146097
def marchR (n : Int) : Int := (4 * marchDay n + 3) % 146097 / 4
def marchQ (n : Int) : Int := (4 * marchR n + 3) / 1461
def marchA (n : Int) : Int := (4 * marchR n + 3) % 1461 / 4
def janFeb (n : Int) : Int := if 306 ≤ marchA n then 1 else 0
def yearOf (n : Int) : Int := 100 * marchC n + marchQ n + janFeb n
def monthOf (n : Int) : Int := (5 * marchA n + 461) / 153 - 12 * janFeb n
def dayOf (n : Int) : Int := (5 * marchA n + 461) % 153 / 5 + 1

theorem march_bd (n : Int) : 0 ≤ marchR n ∧ marchR n ≤ 36524 ∧ 0 ≤ marchQ n ∧ marchQ n ≤ 99 ∧ 0 ≤ marchA n ∧ marchA n ≤ 365 := by
  unfold marchA marchQ marchR; omega
theorem march_eq (n : Int) : marchDay n = 36524 * marchC n + marchC n / 4 + 365 * marchQ n + marchQ n / 4 + marchA n := by
  unfold marchA marchQ
  have h : marchDay n = 36524 * marchC n + marchC n / 4 + marchR n := by unfold marchR marchC; omega
  omega
/-- A day is a leap day only in a leap year. -/
theorem march_365 (n : Int) (h : marchA n = 365) : leapN (100 * marchC n + marchQ n + 1) = 1 := by
  have e := march_eq n
  have b := march_bd n
  have hq : marchQ n % 4 = 3 := by unfold marchA marchQ at *; omega
  have hc : marchQ n = 99 → marchC n % 4 = 3 := by unfold marchA marchQ marchR marchC at *; omega
  unfold leapN
  generalize marchA n = a at *
  generalize marchQ n = q at *
  generalize marchC n = c at *
  rw [if_pos]
  refine ⟨by omega, ?_⟩
  by_cases h99 : q = 99
  · right; have := hc h99; omega
  · left; omega

theorem isDate_of (n : Int) : IsDate n (yearOf n) (monthOf n) (dayOf n) := by
  have e := march_eq n
  have b := march_bd n
  have h365 := march_365 n
  unfold IsDate yearOf monthOf dayOf janFeb
  generalize marchA n = a at *
  generalize marchQ n = q at *
  generalize marchC n = c at *
  obtain ⟨-, -, hq0, hq1, ha0, ha1⟩ := b
  have d4 : (100 * c + q) / 4 = 25 * c + q / 4 := by omega
  have d100 : (100 * c + q) / 100 = c := by omega
  have d400 : (100 * c + q) / 400 = c / 4 := by omega
  have en : n = 36524 * c + c / 4 + 365 * q + q / 4 + a - 719468 := by unfold marchDay at e; omega
  clear e
  subst en
  have k : ∃ k : Int, (5 * a + 461) / 153 = k ∧ 3 ≤ k ∧ k ≤ 14 := ⟨_, rfl, by omega, by omega⟩
  obtain ⟨k, hk, k3, k14⟩ := k
  by_cases hj : 306 ≤ a
  · simp only [hj, if_true]
    have hs : ystart (100 * c + q + 1) = 365 * (100 * c + q) + 25 * c + q / 4 - c + c / 4 - 719162 := by unfold ystart; rw [show 100 * c + q + 1 - 1 = 100 * c + q by omega, d4, d100, d400]; omega
    have hl := leapN_01 (100 * c + q + 1)
    have hk2 : k = 13 ∨ k = 14 := by omega
    rw [hk]
    unfold dayNo
    rw [hs]
    rcases hk2 with rfl | rfl
    · refine ⟨by omega, by omega, by omega, by simp [mdays]; omega, by simp [cumD]; omega⟩
    · refine ⟨by omega, by omega, by omega, ?_, by simp [cumD]; omega⟩
      simp [mdays]
      by_cases h5 : a = 365
      · have := h365 h5; omega
      · omega
  · simp only [hj, if_false]
    have hl := leapN_01 (100 * c + q)
    have hs : ystart (100 * c + q) + leapN (100 * c + q) = 365 * (100 * c + q) - 365 + 25 * c + q / 4 - c + c / 4 - 719162 := by rw [leapN_eq, d4, d100, d400]; unfold ystart; omega
    rw [hk, show 100 * c + q + 0 = 100 * c + q by omega, show k - 12 * 0 = k by omega]
    unfold dayNo
    have hk3 : k = 3 ∨ k = 4 ∨ k = 5 ∨ k = 6 ∨ k = 7 ∨ k = 8 ∨ k = 9 ∨ k = 10 ∨ k = 11 ∨ k = 12 := by omega
    rcases hk3 with rfl | rfl | rfl | rfl | rfl | rfl | rfl | rfl | rfl | rfl <;>
      refine ⟨by omega, by omega, by omega, by simp [mdays]; omega, by simp [cumD]; omega⟩
end Go.Proofs.Ytpgclepiagfgfaa
