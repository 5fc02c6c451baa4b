/- The calendar, plain: days since the first day of 1970, years, months, days. The short cuts that pub/gotime takes in its calendar, plain. From a date to a day as pub/gotime does it, plain. Searching for the next second of a schedule: plain. Seconds are counted from the first of year 1, UTC. -/
import Derived.Laws.BitsAllLaws
namespace Go.Proofs.YtkhggefbkhdimaaGreatDoor
set_option linter.unusedVariables false
set_option linter.unusedSimpArgs false

def leapN (y : Int) : Int := if y % 4 = 0 ∧ (y % 100 ≠ 0 ∨ y % 400 = 0) then 1 else 0
def mdays (y m : Int) : Int := if m = 2 then 28 + leapN y else if m = 4 ∨ m = 6 ∨ m = 9 ∨ m = 11 then 30 else 31
def ystart (y : Int) : Int := 365 * (y - 1) + (y - 1) / 4 - (y - 1) / 100 + (y - 1) / 400 - 719162
/-- Days of a year ahead of month m (1 to 13). -/
def cumD (y m : Int) : Int :=
  if m ≤ 1 then 0 else if m = 2 then 31 else (if m = 3 then 59 else if m = 4 then 90 else if m = 5 then 120 else if m = 6 then 151 else if m = 7 then 181 else if m = 8 then 212
    else if m = 9 then 243 else if m = 10 then 273 else if m = 11 then 304 else if m = 12 then 334 else 365) + leapN y
def dayNo (y m d : Int) : Int := ystart y + cumD y m + d - 1
/-- Day n has the date y, m, d. -/
def IsDate (n y m d : Int) : Prop := 1 ≤ m ∧ m ≤ 12 ∧ 1 ≤ d ∧ d ≤ mdays y m ∧ n = dayNo y m d

theorem leapN_01 (y : Int) : leapN y = 0 ∨ leapN y = 1 := by unfold leapN; split <;> simp
theorem leapN_eq (y : Int) : leapN y = y / 4 - (y - 1) / 4 - (y / 100 - (y - 1) / 100) + (y / 400 - (y - 1) / 400) := by
  unfold leapN; split <;> omega
theorem ystart_succ (y : Int) : ystart (y + 1) = ystart y + 365 + leapN y := by
  rw [leapN_eq]; unfold ystart; rw [show y + 1 - 1 = y by omega]; omega
theorem month_cases {m : Int} (h1 : 1 ≤ m) (h2 : m ≤ 12) : m = 1 ∨ m = 2 ∨ m = 3 ∨ m = 4 ∨ m = 5 ∨ m = 6 ∨ m = 7 ∨ m = 8 ∨ m = 9 ∨ m = 10 ∨ m = 11 ∨ m = 12 := by omega
theorem cumD_succ (y m : Int) (h1 : 1 ≤ m) (h2 : m ≤ 12) : cumD y (m + 1) = cumD y m + mdays y m := by
  rcases month_cases h1 h2 with rfl | rfl | rfl | rfl | rfl | rfl | rfl | rfl | rfl | rfl | rfl | rfl <;> simp [cumD, mdays] <;> omega
theorem mdays_bd (y m : Int) : 28 ≤ mdays y m ∧ mdays y m ≤ 31 := by
  have := leapN_01 y
  unfold mdays; split <;> (try split) <;> omega
theorem cumD_bd (y m : Int) (h1 : 1 ≤ m) (h2 : m ≤ 12) : 0 ≤ cumD y m ∧ cumD y m + mdays y m ≤ 365 + leapN y := by
  have := leapN_01 y
  rcases month_cases h1 h2 with rfl | rfl | rfl | rfl | rfl | rfl | rfl | rfl | rfl | rfl | rfl | rfl <;> simp [cumD, mdays] <;> omega
theorem cumD_mono (y m k : Int) (h1 : 1 ≤ m) (h : m < k) (h2 : k ≤ 12) : cumD y m + mdays y m ≤ cumD y k := by
  have := leapN_01 y
  rcases month_cases h1 (by omega) with rfl | rfl | rfl | rfl | rfl | rfl | rfl | rfl | rfl | rfl | rfl | rfl <;>
    rcases month_cases (m := k) (by omega) h2 with rfl | rfl | rfl | rfl | rfl | rfl | rfl | rfl | rfl | rfl | rfl | rfl <;> simp [cumD, mdays] <;> omega
theorem ystart_mono {a b : Int} (h : a ≤ b) : ystart a ≤ ystart b := by unfold ystart; omega
theorem IsDate.inYear {n y m d : Int} (h : IsDate n y m d) : ystart y ≤ n ∧ n < ystart (y + 1) := by
  obtain ⟨h1, h2, h3, h4, rfl⟩ := h
  have := cumD_bd y m h1 h2
  rw [ystart_succ]; unfold dayNo; omega
theorem IsDate.yearLe {n n' y m d y' m' d' : Int} (h : IsDate n y m d) (h' : IsDate n' y' m' d') (hn : n ≤ n') : y ≤ y' := by
  have a := h.inYear; have b := h'.inYear
  rcases (show y' < y ∨ y ≤ y' by omega) with hl | hl
  · have := ystart_mono (show y' + 1 ≤ y by omega); omega
  · exact hl
theorem IsDate.unique {n y m d y' m' d' : Int} (h : IsDate n y m d) (h' : IsDate n y' m' d') : y = y' ∧ m = m' ∧ d = d' := by
  have e : y = y' := by have a := h.yearLe h' (Int.le_refl _); have b := h'.yearLe h (Int.le_refl _); omega
  subst e
  obtain ⟨h1, h2, h3, h4, h5⟩ := h
  obtain ⟨k1, k2, k3, k4, k5⟩ := h'
  unfold dayNo at h5 k5
  have hm : m = m' := by
    rcases Int.lt_trichotomy m m' with l | l | l
    · have := cumD_mono y m m' h1 l k2; omega
    · exact l
    · have := cumD_mono y m' m k1 l h2; omega
  subst hm
  omega

/-- The date of a day by the calendar that begins in March. -/
def marchDay (n : Int) : Int := n + 719468
def marchC (n : Int) : Int := (4 * marchDay n + 3) / 146097
def marchR (n : Int) : Int := (4 * marchDay n + 3) % 146097 / 4
def marchQ (n : Int) : Int := (4 * marchR n + 3) / 1461
def marchA (n : Int) : Int := (4 * marchR n + 3) % 1461 / 4
def janFeb (n : Int) : Int := if 306 ≤ marchA n then 1 else 0
def yearOf (n : Int) : Int := 100 * marchC n + marchQ n + janFeb n
def monthOf (n : Int) : Int := (5 * marchA n + 461) / 153 - 12 * janFeb n
def dayOf (n : Int) : Int := (5 * marchA n + 461) % 153 / 5 + 1

theorem march_bd (n : Int) : 0 ≤ marchR n ∧ marchR n ≤ 36524 ∧ 0 ≤ marchQ n ∧ marchQ n ≤ 99 ∧ 0 ≤ marchA n ∧ marchA n ≤ 365 := by
  unfold marchA marchQ marchR; omega
theorem march_eq (n : Int) : marchDay n = 36524 * marchC n + marchC n / 4 + 365 * marchQ n + marchQ n / 4 + marchA n := by
  unfold marchA marchQ
  have h : marchDay n = 36524 * marchC n + marchC n / 4 + marchR n := by unfold marchR marchC; omega
  omega
/-- A day is a leap day only in a leap year. -/
theorem march_365 (n : Int) (h : marchA n = 365) : leapN (100 * marchC n + marchQ n + 1) = 1 := by
  have e := march_eq n
  have b := march_bd n
  have hq : marchQ n % 4 = 3 := by unfold marchA marchQ at *; omega
  have hc : marchQ n = 99 → marchC n % 4 = 3 := by unfold marchA marchQ marchR marchC at *; omega
  unfold leapN
  generalize marchA n = a at *
  generalize marchQ n = q at *
  generalize marchC n = c at *
  rw [if_pos]
  refine ⟨by omega, ?_⟩
  by_cases h99 : q = 99
  · right; have := hc h99; omega
  · left; omega

theorem isDate_of (n : Int) : IsDate n (yearOf n) (monthOf n) (dayOf n) := by
  have e := march_eq n
  have b := march_bd n
  have h365 := march_365 n
  unfold IsDate yearOf monthOf dayOf janFeb
  generalize marchA n = a at *
  generalize marchQ n = q at *
  generalize marchC n = c at *
  obtain ⟨-, -, hq0, hq1, ha0, ha1⟩ := b
  have d4 : (100 * c + q) / 4 = 25 * c + q / 4 := by omega
  have d100 : (100 * c + q) / 100 = c := by omega
  have d400 : (100 * c + q) / 400 = c / 4 := by omega
  have en : n = 36524 * c + c / 4 + 365 * q + q / 4 + a - 719468 := by unfold marchDay at e; omega
  clear e
  subst en
  have k : ∃ k : Int, (5 * a + 461) / 153 = k ∧ 3 ≤ k ∧ k ≤ 14 := ⟨_, rfl, by omega, by omega⟩
  obtain ⟨k, hk, k3, k14⟩ := k
  by_cases hj : 306 ≤ a
  · simp only [hj, if_true]
    have hs : ystart (100 * c + q + 1) = 365 * (100 * c + q) + 25 * c + q / 4 - c + c / 4 - 719162 := by unfold ystart; rw [show 100 * c + q + 1 - 1 = 100 * c + q by omega, d4, d100, d400]; omega
    have hl := leapN_01 (100 * c + q + 1)
    have hk2 : k = 13 ∨ k = 14 := by omega
    rw [hk]
    unfold dayNo
    rw [hs]
    rcases hk2 with rfl | rfl
    · refine ⟨by omega, by omega, by omega, by simp [mdays]; omega, by simp [cumD]; omega⟩
    · refine ⟨by omega, by omega, by omega, ?_, by simp [cumD]; omega⟩
      simp [mdays]
      by_cases h5 : a = 365
      · have := h365 h5; omega
      · omega
  · simp only [hj, if_false]
    have hl := leapN_01 (100 * c + q)
    have hs : ystart (100 * c + q) + leapN (100 * c + q) = 365 * (100 * c + q) - 365 + 25 * c + q / 4 - c + c / 4 - 719162 := by rw [leapN_eq, d4, d100, d400]; unfold ystart; omega
    rw [hk, show 100 * c + q + 0 = 100 * c + q by omega, show k - 12 * 0 = k by omega]
    unfold dayNo
    have hk3 : k = 3 ∨ k = 4 ∨ k = 5 ∨ k = 6 ∨ k = 7 ∨ k = 8 ∨ k = 9 ∨ k = 10 ∨ k = 11 ∨ k = 12 := by omega
    rcases hk3 with rfl | rfl | rfl | rfl | rfl | rfl | rfl | rfl | rfl | rfl <;>
      refine ⟨by omega, by omega, by omega, by simp [mdays]; omega, by simp [cumD]; omega⟩
end Go.Proofs.YtkhggefbkhdimaaGreatDoor

namespace Go.Proofs.YtkhggefbkhdimaaGreatDoor
set_option linter.unusedVariables false
set_option linter.unusedSimpArgs false

theorem nat_or3 (x : Nat) : x ||| 3 = 4 * (x / 4) + 3 := by
  apply Nat.eq_of_testBit_eq
  intro j
  have e1 : x.testBit j = (2 ^ 2 * (x / 4) + x % 4).testBit j := by congr 1; omega
  have e2 : (4 * (x / 4) + 3).testBit j = (2 ^ 2 * (x / 4) + 3).testBit j := rfl
  rw [Nat.testBit_or, e1, e2, Nat.testBit_two_pow_mul_add _ (by omega), Nat.testBit_two_pow_mul_add _ (by omega)]
  by_cases h : j < 2
  · have h3 : (3 : Nat).testBit j = true := by
      have : j = 0 ∨ j = 1 := by omega
      rcases this with rfl | rfl <;> rfl
    simp [h, h3]
  · have h3 : (3 : Nat).testBit j = false := Nat.testBit_lt_two_pow (Nat.lt_of_lt_of_le (show 3 < 2 ^ 2 by decide) (Nat.pow_le_pow_right (by decide) (by omega)))
    simp [h, h3]
theorem or3 (x : Int) (h0 : 0 ≤ x) (h1 : x < 4294967296) : bits .or .u32 x 3 = 4 * (x / 4) + 3 := by
  obtain ⟨k, rfl⟩ : ∃ k : Nat, x = k := ⟨x.toNat, by omega⟩
  rw [show (3 : Int) = ((3 : Nat) : Int) from rfl, u32_or_nat k 3 (by omega) (by decide), nat_or3]
  omega
theorem and16 (x : Int) (h0 : 0 ≤ x) (h1 : x < 4294967296) : bits .and .u32 x 65535 = x % 65536 := by
  obtain ⟨k, rfl⟩ : ∃ k : Nat, x = k := ⟨x.toNat, by omega⟩
  rw [show (65535 : Int) = ((2 ^ 16 - 1 : Nat) : Int) from rfl, u32_and_nat k (2 ^ 16 - 1) (by omega) (by decide), Nat.and_two_pow_sub_one_eq_mod]
  omega

/-- 2939745 (4 r + 3) in base 2 to the 32. -/
theorem cut1461 (r : Int) (h0 : 0 ≤ r) (h1 : r ≤ 36524) :
    2939745 * (4 * r + 3) / 4294967296 = (4 * r + 3) / 1461 ∧ 2939745 * (4 * r + 3) % 4294967296 / 2939745 / 4 = (4 * r + 3) % 1461 / 4 := by
  generalize hx : 4 * r + 3 = x
  have hq : x = 1461 * (x / 1461) + x % 1461 := by omega
  have b1 : 0 ≤ x / 1461 ∧ x / 1461 ≤ 99 := by omega
  have b2 : 0 ≤ x % 1461 ∧ x % 1461 ≤ 1460 := by omega
  generalize x / 1461 = q at *
  generalize x % 1461 = s at *
  have e : 2939745 * x = 4294967296 * q + (149 * q + 2939745 * s) := by omega
  rw [e]
  have l : 0 ≤ 149 * q + 2939745 * s ∧ 149 * q + 2939745 * s < 4294967296 := by omega
  have e1 : (4294967296 * q + (149 * q + 2939745 * s)) / 4294967296 = q := by omega
  have e2 : (4294967296 * q + (149 * q + 2939745 * s)) % 4294967296 = 149 * q + 2939745 * s := by omega
  have e3 : (149 * q + 2939745 * s) / 2939745 = s := by omega
  rw [e1, e2, e3]
  exact ⟨rfl, rfl⟩

theorem cut153 (a : Int) (h0 : 0 ≤ a) (h1 : a ≤ 365) : (2141 * a + 197913) / 65536 = (5 * a + 461) / 153 ∧ (2141 * a + 197913) % 65536 / 2141 = (5 * a + 461) % 153 / 5 := by
  obtain ⟨k, hk⟩ : ∃ k : Int, (5 * a + 461) / 153 = k := ⟨_, rfl⟩
  have hc : k = 3 ∨ k = 4 ∨ k = 5 ∨ k = 6 ∨ k = 7 ∨ k = 8 ∨ k = 9 ∨ k = 10 ∨ k = 11 ∨ k = 12 ∨ k = 13 ∨ k = 14 := by omega
  rw [hk]
  rcases hc with rfl | rfl | rfl | rfl | rfl | rfl | rfl | rfl | rfl | rfl | rfl | rfl
  · obtain ⟨d, rfl⟩ : ∃ d : Int, a = 0 + d := ⟨a - 0, by omega⟩
    have b : 0 ≤ d ∧ d ≤ 30 := by omega
    exact ⟨by omega, by omega⟩
  · obtain ⟨d, rfl⟩ : ∃ d : Int, a = 31 + d := ⟨a - 31, by omega⟩
    have b : 0 ≤ d ∧ d ≤ 29 := by omega
    exact ⟨by omega, by omega⟩
  · obtain ⟨d, rfl⟩ : ∃ d : Int, a = 61 + d := ⟨a - 61, by omega⟩
    have b : 0 ≤ d ∧ d ≤ 30 := by omega
    exact ⟨by omega, by omega⟩
  · obtain ⟨d, rfl⟩ : ∃ d : Int, a = 92 + d := ⟨a - 92, by omega⟩
    have b : 0 ≤ d ∧ d ≤ 29 := by omega
    exact ⟨by omega, by omega⟩
  · obtain ⟨d, rfl⟩ : ∃ d : Int, a = 122 + d := ⟨a - 122, by omega⟩
    have b : 0 ≤ d ∧ d ≤ 30 := by omega
    exact ⟨by omega, by omega⟩
  · obtain ⟨d, rfl⟩ : ∃ d : Int, a = 153 + d := ⟨a - 153, by omega⟩
    have b : 0 ≤ d ∧ d ≤ 30 := by omega
    exact ⟨by omega, by omega⟩
  · obtain ⟨d, rfl⟩ : ∃ d : Int, a = 184 + d := ⟨a - 184, by omega⟩
    have b : 0 ≤ d ∧ d ≤ 29 := by omega
    exact ⟨by omega, by omega⟩
  · obtain ⟨d, rfl⟩ : ∃ d : Int, a = 214 + d := ⟨a - 214, by omega⟩
    have b : 0 ≤ d ∧ d ≤ 30 := by omega
    exact ⟨by omega, by omega⟩
  · obtain ⟨d, rfl⟩ : ∃ d : Int, a = 245 + d := ⟨a - 245, by omega⟩
    have b : 0 ≤ d ∧ d ≤ 29 := by omega
    exact ⟨by omega, by omega⟩
  · obtain ⟨d, rfl⟩ : ∃ d : Int, a = 275 + d := ⟨a - 275, by omega⟩
    have b : 0 ≤ d ∧ d ≤ 30 := by omega
    exact ⟨by omega, by omega⟩
  · obtain ⟨d, rfl⟩ : ∃ d : Int, a = 306 + d := ⟨a - 306, by omega⟩
    have b : 0 ≤ d ∧ d ≤ 30 := by omega
    exact ⟨by omega, by omega⟩
  · obtain ⟨d, rfl⟩ : ∃ d : Int, a = 337 + d := ⟨a - 337, by omega⟩
    have b : 0 ≤ d ∧ d ≤ 28 := by omega
    exact ⟨by omega, by omega⟩

/-- The absolute day of day n. -/
theorem abs_century (n : Int) : (4 * (n + 106751991073400) + 3) / 146097 = marchC n + 2922770224 ∧ (4 * (n + 106751991073400) + 3) % 146097 = (4 * marchDay n + 3) % 146097 := by
  unfold marchC marchDay; omega
theorem marchC_bd (n : Int) (h0 : -719162 ≤ n) (h1 : n < 100000000) : 0 ≤ marchC n ∧ marchC n ≤ 2800 := by unfold marchC marchDay; omega
end Go.Proofs.YtkhggefbkhdimaaGreatDoor

namespace Go.Proofs.YtkhggefbkhdimaaGreatDoor
set_option linter.unusedVariables false
set_option linter.unusedSimpArgs false

/-- Days ahead of the years of the calendar that begins in March, and of its months. -/
theorem abs_of (y : Int) (h0 : 0 ≤ y) (h1 : y ≤ 100000) (j : Int) (hj : j = 0 ∨ j = 1) :
    146097 * ((y - j + 292277022400) / 100) / 4 + 1461 * ((y - j + 292277022400) % 100) / 4 = 365 * (y - j) + (y - j) / 4 - (y - j) / 100 + (y - j) / 400 + 146097 * 730692556 := by
  obtain ⟨x, hx⟩ : ∃ x, y - j = x := ⟨_, rfl⟩
  rw [hx]
  have hx0 : -1 ≤ x := by omega
  clear hj hx h0 h1
  obtain ⟨c, q, rfl, q0, q1⟩ : ∃ c q : Int, x = 100 * c + q ∧ 0 ≤ q ∧ q ≤ 99 := ⟨x / 100, x % 100, by omega, by omega, by omega⟩
  have e1 : (100 * c + q + 292277022400) / 100 = c + 2922770224 := by omega
  have e2 : (100 * c + q + 292277022400) % 100 = q := by omega
  have d4 : (100 * c + q) / 4 = 25 * c + q / 4 := by omega
  have d100 : (100 * c + q) / 100 = c := by omega
  have d400 : (100 * c + q) / 400 = c / 4 := by omega
  have e3 : 146097 * (c + 2922770224) / 4 = 36524 * c + c / 4 + 146097 * 730692556 := by omega
  have e4 : 1461 * q / 4 = 365 * q + q / 4 := by omega
  rw [e1, e2, e3, e4, d4, d100, d400]
  omega
theorem shr5 (a : Int) (h0 : 3 ≤ a) (h1 : a ≤ 14) : (979 * a - 2919) / 32 = (153 * a - 457) / 5 := by
  have : a = 3 ∨ a = 4 ∨ a = 5 ∨ a = 6 ∨ a = 7 ∨ a = 8 ∨ a = 9 ∨ a = 10 ∨ a = 11 ∨ a = 12 ∨ a = 13 ∨ a = 14 := by omega
  rcases this with rfl | rfl | rfl | rfl | rfl | rfl | rfl | rfl | rfl | rfl | rfl | rfl <;> rfl
/-- The absolute day of a date: j = 1 in January and February. -/
theorem absDay_eq (y m d j : Int) (h1 : 1 ≤ m) (h2 : m ≤ 12) (hj : (m < 3 ∧ j = 1) ∨ (3 ≤ m ∧ j = 0)) :
    365 * (y - j) + (y - j) / 4 - (y - j) / 100 + (y - j) / 400 + (153 * (m + 12 * j) - 457) / 5 + d - 1 = dayNo y m d + 719468 := by
  unfold dayNo
  rcases hj with ⟨hm, rfl⟩ | ⟨hm, rfl⟩
  · have : m = 1 ∨ m = 2 := by omega
    rcases this with rfl | rfl <;> simp [cumD, ystart] <;> omega
  · have hl : leapN y = y / 4 - (y - 1) / 4 - (y / 100 - (y - 1) / 100) + (y / 400 - (y - 1) / 400) := leapN_eq y
    have : m = 3 ∨ m = 4 ∨ m = 5 ∨ m = 6 ∨ m = 7 ∨ m = 8 ∨ m = 9 ∨ m = 10 ∨ m = 11 ∨ m = 12 := by omega
    rcases this with rfl | rfl | rfl | rfl | rfl | rfl | rfl | rfl | rfl | rfl <;> simp [cumD, ystart] <;> omega
theorem dayNo_bd (y m d : Int) (h0 : 0 ≤ y) (h1 : y ≤ 20001) (m1 : 1 ≤ m) (m2 : m ≤ 12) (d1 : 1 ≤ d) (d2 : d ≤ 32) : -719528 ≤ dayNo y m d ∧ dayNo y m d ≤ 6700000 := by
  have := cumD_bd y m m1 m2
  have := mdays_bd y m
  have := leapN_01 y
  unfold dayNo ystart; omega
end Go.Proofs.YtkhggefbkhdimaaGreatDoor

namespace Go.Proofs.YtkhggefbkhdimaaGreatDoor
set_option linter.unusedVariables false
set_option linter.unusedSimpArgs false

/-- Six sets: second, minute, hour, day of the month, month, day of the week. -/
structure Sched where
  se : Nat
  mi : Nat
  ho : Nat
  dom : Nat
  mo : Nat
  dow : Nat
def Sched.ok (s : Sched) : Prop := s.se < 18446744073709551616 ∧ s.mi < 18446744073709551616 ∧ s.ho < 18446744073709551616 ∧ s.dom < 18446744073709551616 ∧ s.mo < 18446744073709551616 ∧ s.dow < 18446744073709551616
/-- What the two fields of days allow. -/
def dayB (dom dow d wd : Nat) : Bool := if dom.testBit 63 || dow.testBit 63 then dom.testBit d && dow.testBit wd else dom.testBit d || dow.testBit wd
/-- The day (since the first of 1970) of the second ext since the first of year 1. -/
def dayN (ext : Int) : Int := ext / 86400 - 719162
def yr (u : Int) : Int := yearOf (dayN u)
def moOK (s : Sched) (u : Int) : Bool := s.mo.testBit (monthOf (dayN u)).toNat
def dyOK (s : Sched) (u : Int) : Bool := dayB s.dom s.dow (dayOf (dayN u)).toNat ((dayN u + 4) % 7).toNat
def hoOK (s : Sched) (u : Int) : Bool := s.ho.testBit (u % 86400 / 3600).toNat
def miOK (s : Sched) (u : Int) : Bool := s.mi.testBit (u % 3600 / 60).toNat
def seOK (s : Sched) (u : Int) : Bool := s.se.testBit (u % 60).toNat
def fits (s : Sched) (u : Int) : Bool := moOK s u && dyOK s u && hoOK s u && miOK s u && seOK s u
def NoFit (s : Sched) (a b : Int) : Prop := ∀ v, a ≤ v → v < b → fits s v = false
/-- Below a level that does not fit all is at its beginning. -/
def Al (s : Sched) (u : Int) : Prop := u % 60 = 0 ∧ (hoOK s u = false → u % 3600 = 0) ∧ (dyOK s u = false → u % 86400 = 0) ∧ (moOK s u = false → u % 86400 = 0 ∧ dayOf (dayN u) = 1)
/-- What holds at the search's beginnings and within it. -/
def JInv (s : Sched) (first lim : Int) (b : Bool) (u : Int) : Prop := (0 ≤ first ∧ first ≤ u) ∧ NoFit s first u ∧ (yr u ≤ lim + 1 ∧ lim ≤ 10010) ∧ (b = true → Al s u)
def MInv (s : Sched) (first lim : Int) (b : Bool) (u : Int) : Prop := JInv s first lim b u ∧ yr u ≤ lim
def DInv (s : Sched) (first lim : Int) (b : Bool) (u : Int) : Prop := MInv s first lim b u ∧ moOK s u = true
def HInv (s : Sched) (first lim : Int) (b : Bool) (u : Int) : Prop := DInv s first lim b u ∧ dyOK s u = true
def NInv (s : Sched) (first lim : Int) (b : Bool) (u : Int) : Prop := HInv s first lim b u ∧ hoOK s u = true
def SInv (s : Sched) (first lim : Int) (b : Bool) (u : Int) : Prop := NInv s first lim b u ∧ miOK s u = true

theorem isDate_u (u : Int) : IsDate (dayN u) (yr u) (monthOf (dayN u)) (dayOf (dayN u)) := isDate_of _
theorem month_bd (n : Int) : 1 ≤ monthOf n ∧ monthOf n ≤ 12 := ⟨(isDate_of n).1, (isDate_of n).2.1⟩
theorem day_bd (n : Int) : 1 ≤ dayOf n ∧ dayOf n ≤ 31 := ⟨(isDate_of n).2.2.1, Int.le_trans (isDate_of n).2.2.2.1 (mdays_bd _ _).2⟩
theorem yr_mono {u v : Int} (h : u ≤ v) : yr u ≤ yr v := (isDate_u u).yearLe (isDate_u v) (by unfold dayN; omega)
theorem yr_lt {u : Int} {y : Int} (h : yr u ≤ y) : u < 86400 * (ystart (y + 1) + 719162) := by
  have a := (isDate_u u).inYear
  have b := ystart_mono (show yr u + 1 ≤ y + 1 by omega)
  unfold dayN at a; omega
theorem yr_bound {u : Int} (h : yr u ≤ 10011) : u < 319000000000 := by
  have := yr_lt h
  unfold ystart at this; omega
theorem NoFit.app {s : Sched} {a b c : Int} (h : NoFit s a b) (k : ∀ v, b ≤ v → v < c → fits s v = false) : NoFit s a c := fun v h1 h2 => by
  by_cases hb : v < b
  · exact h v h1 hb
  · exact k v (by omega) h2
theorem nofit_mo {s : Sched} {v : Int} (h : moOK s v = false) : fits s v = false := by unfold fits; simp [h]
theorem nofit_dy {s : Sched} {v : Int} (h : dyOK s v = false) : fits s v = false := by unfold fits; simp [h]
theorem nofit_ho {s : Sched} {v : Int} (h : hoOK s v = false) : fits s v = false := by unfold fits; simp [h]
theorem nofit_mi {s : Sched} {v : Int} (h : miOK s v = false) : fits s v = false := by unfold fits; simp [h]
theorem nofit_se {s : Sched} {v : Int} (h : seOK s v = false) : fits s v = false := by unfold fits; simp [h]

/-- Midnight of a day. -/
def mid (n : Int) : Int := 86400 * (n + 719162)
theorem dayN_mid (n : Int) : dayN (mid n) = n := by unfold dayN mid; omega
theorem mid_mod (n : Int) : mid n % 86400 = 0 := by unfold mid; omega
theorem date_is {n y m d : Int} (h : IsDate n y m d) : yearOf n = y ∧ monthOf n = m ∧ dayOf n = d := (isDate_of n).unique h

/-- The first of the month of a second, and the first of the next month. -/
def mon0 (u : Int) : Int := dayNo (yr u) (monthOf (dayN u)) 1
def nextY (u : Int) : Int := if monthOf (dayN u) = 12 then yr u + 1 else yr u
def nextM (u : Int) : Int := if monthOf (dayN u) = 12 then 1 else monthOf (dayN u) + 1
def mon1 (u : Int) : Int := dayNo (nextY u) (nextM u) 1
theorem mon0_date (u : Int) : IsDate (mon0 u) (yr u) (monthOf (dayN u)) 1 := by
  have h := isDate_u u
  exact ⟨h.1, h.2.1, by omega, by have := mdays_bd (yr u) (monthOf (dayN u)); omega, rfl⟩
theorem mon1_date (u : Int) : IsDate (mon1 u) (nextY u) (nextM u) 1 := by
  have h := isDate_u u
  have a1 := h.1
  have a2 := h.2.1
  refine ⟨?_, ?_, by omega, by have := mdays_bd (nextY u) (nextM u); omega, rfl⟩
  · unfold nextM; split <;> omega
  · unfold nextM; split <;> omega
theorem mon1_eq (u : Int) : mon1 u = mon0 u + mdays (yr u) (monthOf (dayN u)) := by
  have h := isDate_u u
  unfold mon1 mon0 dayNo nextY nextM
  split
  · rename_i e
    rw [e, ystart_succ]
    have := leapN_01 (yr u)
    simp [cumD, mdays]; omega
  · rw [cumD_succ _ _ h.1 h.2.1]; omega
theorem mon_in (u : Int) : mon0 u ≤ dayN u ∧ dayN u < mon1 u := by
  have h := isDate_u u
  obtain ⟨h1, h2, h3, h4, h5⟩ := h
  rw [mon1_eq]
  unfold mon0 dayNo at *
  omega
/-- All days of a month have its number. -/
theorem mon_same {u : Int} {n : Int} (h0 : mon0 u ≤ n) (h1 : n < mon1 u) : monthOf n = monthOf (dayN u) ∧ yearOf n = yr u := by
  have h := isDate_u u
  rw [mon1_eq] at h1
  have : IsDate n (yr u) (monthOf (dayN u)) (n - mon0 u + 1) := ⟨h.1, h.2.1, by omega, by omega, by unfold mon0 dayNo at *; omega⟩
  have k := date_is this
  exact ⟨k.2.1, k.1⟩
theorem day_next (n : Int) : (monthOf (n + 1) = monthOf n ∧ yearOf (n + 1) = yearOf n ∧ dayOf (n + 1) = dayOf n + 1) ∨ dayOf (n + 1) = 1 := by
  obtain ⟨h1, h2, h3, h4, h5⟩ := isDate_of n
  by_cases hd : dayOf n + 1 ≤ mdays (yearOf n) (monthOf n)
  · have : IsDate (n + 1) (yearOf n) (monthOf n) (dayOf n + 1) := ⟨h1, h2, by omega, hd, by unfold dayNo at *; omega⟩
    have k := date_is this
    exact .inl ⟨k.2.1, k.1, k.2.2⟩
  · right
    have e := dayN_mid n
    have hm := mon1_date (mid n)
    have hx : mon1 (mid n) = n + 1 := by
      rw [mon1_eq]
      unfold mon0 yr
      rw [e]
      unfold dayNo at *
      omega
    rw [hx] at hm
    exact (date_is hm).2.2

theorem JInv.zero {s : Sched} {first lim : Int} {b : Bool} {u : Int} (h : JInv s first lim b u) (hy : lim < yr u) : ∀ v, first ≤ v → yr v ≤ lim → fits s v = false := fun v h1 h2 => by
  refine h.2.1 v h1 ?_
  by_cases hv : v < u
  · exact hv
  · have := yr_mono (show u ≤ v by omega); omega

/-- The first of the month: where all below is at its beginning it is the second itself. -/
theorem MInv.at0 {s : Sched} {first lim : Int} {u : Int} (h : MInv s first lim true u) (hm : moOK s u = false) : mid (mon0 u) = u := by
  obtain ⟨h1, h2⟩ := (h.1.2.2.2 rfl).2.2.2 hm
  obtain ⟨-, -, -, -, h5⟩ := isDate_u u
  have : mon0 u = dayN u := by unfold mon0; rw [h2] at h5; exact h5.symm
  rw [this]; unfold mid dayN; omega
theorem al_first {s : Sched} {u : Int} (h1 : u % 86400 = 0) (h2 : dayOf (dayN u) = 1) : Al s u := ⟨by omega, fun _ => by omega, fun _ => h1, fun _ => ⟨h1, h2⟩⟩
theorem MInv.step {s : Sched} {first lim : Int} {b : Bool} {u : Int} (h : MInv s first lim b u) (hm : moOK s u = false) :
    u < mid (mon1 u) ∧ JInv s first lim true (mid (mon1 u)) ∧ monthOf (dayN (mid (mon1 u))) = nextM u ∧ (nextM u ≠ 1 → MInv s first lim true (mid (mon1 u))) := by
  have hi := mon_in u
  have hd := date_is (mon1_date u)
  have hlt : u < mid (mon1 u) := by have := hi.2; unfold mid; unfold dayN at this; omega
  have hn := dayN_mid (mon1 u)
  have hy : yr (mid (mon1 u)) = nextY u := by unfold yr; rw [hn]; exact hd.1
  have hj : JInv s first lim true (mid (mon1 u)) := by
    refine ⟨⟨h.1.1.1, by have := h.1.1.2; omega⟩, h.1.2.1.app fun v h1 h2 => nofit_mo ?_, ⟨?_, h.1.2.2.1.2⟩, fun _ => al_first (mid_mod _) (by rw [hn]; exact hd.2.2)⟩
    · have e := (mon_same (u := u) (n := dayN v) (by have := hi.1; unfold dayN at *; omega) (by unfold mid at h2; unfold dayN; omega)).1
      unfold moOK at *
      rw [e]; exact hm
    · rw [hy]; have := h.2; unfold nextY; split <;> omega
  refine ⟨hlt, hj, by rw [hn]; exact hd.2.1, fun hne => ⟨hj, ?_⟩⟩
  rw [hy]
  unfold nextY
  rw [if_neg]
  · exact h.2
  · intro e; unfold nextM at hne; simp [e] at hne

/-- Behind a second whose month and day fit, at midnight. -/
theorem al_mid {s : Sched} {u : Int} (h1 : u % 86400 = 0) (hm : moOK s (u - 1) = true) : Al s u := by
  refine ⟨by omega, fun _ => by omega, fun _ => h1, fun hmo => ⟨h1, ?_⟩⟩
  have e : dayN u = dayN (u - 1) + 1 := by unfold dayN; omega
  rcases day_next (dayN (u - 1)) with ⟨k, _⟩ | k
  · unfold moOK at *; rw [e, k, hm] at hmo; cases hmo
  · rw [e]; exact k
theorem same_day {s : Sched} {u v : Int} (h : dayN u = dayN v) : moOK s u = moOK s v ∧ dyOK s u = dyOK s v ∧ yr u = yr v := by
  unfold moOK dyOK yr; rw [h]; exact ⟨rfl, rfl, rfl⟩
theorem same_hour {s : Sched} {u v : Int} (h : u / 3600 = v / 3600) : dayN u = dayN v ∧ hoOK s u = hoOK s v := by
  unfold dayN hoOK
  rw [show u % 86400 / 3600 = v % 86400 / 3600 by omega]
  exact ⟨by omega, rfl⟩
theorem same_min {s : Sched} {u v : Int} (h : u / 60 = v / 60) : dayN u = dayN v ∧ hoOK s u = hoOK s v ∧ miOK s u = miOK s v := by
  have a := same_hour (s := s) (u := u) (v := v) (by omega)
  unfold miOK
  rw [show u % 3600 / 60 = v % 3600 / 60 by omega]
  exact ⟨a.1, a.2, rfl⟩
theorem al_hour {s : Sched} {u : Int} (h1 : u % 3600 = 0) (hm : moOK s (u - 1) = true) (hd : dyOK s (u - 1) = true) : Al s u := by
  by_cases h : u % 86400 = 0
  · exact al_mid h hm
  · have e := same_day (s := s) (u := u) (v := u - 1) (by unfold dayN; omega)
    refine ⟨by omega, fun _ => h1, fun k => ?_, fun k => ?_⟩
    · rw [e.2.1, hd] at k; cases k
    · rw [e.1, hm] at k; cases k
theorem al_min {s : Sched} {u : Int} (h1 : u % 60 = 0) (hm : moOK s (u - 1) = true) (hd : dyOK s (u - 1) = true) (hh : hoOK s (u - 1) = true) : Al s u := by
  by_cases h : u % 3600 = 0
  · exact al_hour h hm hd
  · have e := same_hour (s := s) (u := u) (v := u - 1) (by omega)
    have e2 := same_day (s := s) e.1
    refine ⟨h1, fun k => ?_, fun k => ?_, fun k => ?_⟩
    · rw [e.2, hh] at k; cases k
    · rw [e2.2.1, hd] at k; cases k
    · rw [e2.1, hm] at k; cases k

theorem yr_next (u : Int) (k : Int) (hk : 0 ≤ k) (hk2 : k ≤ 86400) : yr (u + k) ≤ yr u + 1 := by
  have a := (isDate_u u).inYear
  have b := (isDate_u (u + k)).inYear
  rcases (show yr (u + k) ≤ yr u + 1 ∨ yr u + 1 + 1 ≤ yr (u + k) by omega) with h | h
  · exact h
  · have := ystart_mono h
    have e := ystart_succ (yr u + 1)
    have := leapN_01 (yr u + 1)
    unfold dayN at *; omega

theorem DInv.at0 {s : Sched} {first lim : Int} {u : Int} (h : DInv s first lim true u) (hd : dyOK s u = false) : mid (dayN u) = u := by
  have := (h.1.1.2.2.2 rfl).2.2.1 hd
  unfold mid dayN; omega
theorem DInv.step {s : Sched} {first lim : Int} {b : Bool} {u : Int} (h : DInv s first lim b u) (hd : dyOK s u = false) :
    u < mid (dayN u) + 86400 ∧ JInv s first lim true (mid (dayN u) + 86400) ∧ (dayOf (dayN (mid (dayN u) + 86400)) ≠ 1 → DInv s first lim true (mid (dayN u) + 86400)) := by
  have hlt : u < mid (dayN u) + 86400 := by unfold mid dayN; omega
  have hle : mid (dayN u) ≤ u := by unfold mid dayN; omega
  have hp : dayN (mid (dayN u) + 86400) = dayN u + 1 := by unfold mid dayN; omega
  have hb := same_day (s := s) (u := mid (dayN u) + 86400 - 1) (v := u) (by unfold mid dayN; omega)
  have hj : JInv s first lim true (mid (dayN u) + 86400) := by
    refine ⟨⟨h.1.1.1.1, by have := h.1.1.1.2; omega⟩, h.1.1.2.1.app fun v h1 h2 => nofit_dy ?_, ⟨?_, h.1.1.2.2.1.2⟩, fun _ => al_mid (by unfold mid; omega) (by rw [hb.1]; exact h.2)⟩
    · rw [(same_day (s := s) (u := v) (v := u) (by unfold mid dayN at *; omega)).2.1]; exact hd
    · have e : mid (dayN u) + 86400 = u + (mid (dayN u) + 86400 - u) := by omega
      rw [e]
      have := yr_next u (mid (dayN u) + 86400 - u) (by omega) (by omega)
      have := h.1.2; omega
  refine ⟨hlt, hj, fun hne => ?_⟩
  rcases day_next (dayN u) with ⟨k1, k2, k3⟩ | k
  · refine ⟨⟨hj, ?_⟩, ?_⟩
    · unfold yr; rw [hp, k2]; exact h.1.2
    · unfold moOK; rw [hp, k1]; exact h.2
  · rw [hp] at hne; exact absurd k hne

theorem HInv.at0 {s : Sched} {first lim : Int} {u : Int} (h : HInv s first lim true u) (hh : hoOK s u = false) : u - u % 3600 = u := by
  have := (h.1.1.1.2.2.2 rfl).2.1 hh
  omega
theorem HInv.step {s : Sched} {first lim : Int} {b : Bool} {u : Int} (h : HInv s first lim b u) (hh : hoOK s u = false) :
    u < u - u % 3600 + 3600 ∧ JInv s first lim true (u - u % 3600 + 3600) ∧ ((u - u % 3600 + 3600) % 86400 / 3600 ≠ 0 → HInv s first lim true (u - u % 3600 + 3600)) := by
  have hb := same_hour (s := s) (u := u - u % 3600 + 3600 - 1) (v := u) (by omega)
  have hb2 := same_day (s := s) hb.1
  have hj : JInv s first lim true (u - u % 3600 + 3600) := by
    refine ⟨⟨h.1.1.1.1.1, by have := h.1.1.1.1.2; omega⟩, h.1.1.1.2.1.app fun v h1 h2 => nofit_ho ?_, ⟨?_, h.1.1.1.2.2.1.2⟩, fun _ => al_hour (by omega) (by rw [hb2.1]; exact h.1.2) (by rw [hb2.2.1]; exact h.2)⟩
    · rw [(same_hour (s := s) (u := v) (v := u) (by omega)).2]; exact hh
    · have e : u - u % 3600 + 3600 = u + (3600 - u % 3600) := by omega
      rw [e]
      have := yr_next u (3600 - u % 3600) (by omega) (by omega)
      have := h.1.1.2; omega
  refine ⟨by omega, hj, fun hne => ?_⟩
  have e := same_day (s := s) (u := u - u % 3600 + 3600) (v := u) (by unfold dayN; omega)
  exact ⟨⟨⟨hj, by rw [e.2.2]; exact h.1.1.2⟩, by rw [e.1]; exact h.1.2⟩, by rw [e.2.1]; exact h.2⟩

theorem NInv.at0 {s : Sched} {first lim : Int} {u : Int} (h : NInv s first lim true u) : u - u % 60 = u := by
  have := (h.1.1.1.1.2.2.2 rfl).1
  omega
theorem NInv.step {s : Sched} {first lim : Int} {b : Bool} {u : Int} (h : NInv s first lim b u) (hh : miOK s u = false) :
    u < u - u % 60 + 60 ∧ JInv s first lim true (u - u % 60 + 60) ∧ ((u - u % 60 + 60) % 3600 / 60 ≠ 0 → NInv s first lim true (u - u % 60 + 60)) := by
  have hb := same_min (s := s) (u := u - u % 60 + 60 - 1) (v := u) (by omega)
  have hb2 := same_day (s := s) hb.1
  have hj : JInv s first lim true (u - u % 60 + 60) := by
    refine ⟨⟨h.1.1.1.1.1.1, by have := h.1.1.1.1.1.2; omega⟩, h.1.1.1.1.2.1.app fun v h1 h2 => nofit_mi ?_, ⟨?_, h.1.1.1.1.2.2.1.2⟩, fun _ => al_min (by omega) (by rw [hb2.1]; exact h.1.1.2) (by rw [hb2.2.1]; exact h.1.2) (by rw [hb.2.1]; exact h.2)⟩
    · rw [(same_min (s := s) (u := v) (v := u) (by omega)).2.2]; exact hh
    · have e : u - u % 60 + 60 = u + (60 - u % 60) := by omega
      rw [e]
      have := yr_next u (60 - u % 60) (by omega) (by omega)
      have := h.1.1.1.2; omega
  refine ⟨by omega, hj, fun hne => ?_⟩
  have e1 := same_hour (s := s) (u := u - u % 60 + 60) (v := u) (by omega)
  have e := same_day (s := s) e1.1
  exact ⟨⟨⟨⟨hj, by rw [e.2.2]; exact h.1.1.1.2⟩, by rw [e.1]; exact h.1.1.2⟩, by rw [e.2.1]; exact h.1.2⟩, by rw [e1.2]; exact h.2⟩

theorem SInv.step {s : Sched} {first lim : Int} {b : Bool} {u : Int} (h : SInv s first lim b u) (hh : seOK s u = false) :
    ((u + 1) % 60 = 0 → JInv s first lim true (u + 1)) ∧ ((u + 1) % 60 ≠ 0 → SInv s first lim false (u + 1)) := by
  have hnf : NoFit s first (u + 1) := h.1.1.1.1.1.2.1.app fun v h1 h2 => by
    obtain rfl : v = u := by omega
    exact nofit_se hh
  have hy := yr_next u 1 (by omega) (by omega)
  have hy2 := h.1.1.1.1.2
  have h0 := h.1.1.1.1.1.1
  refine ⟨fun h60 => ⟨⟨h0.1, by omega⟩, hnf, ⟨by omega, h.1.1.1.1.1.2.2.1.2⟩, fun _ => ?_⟩, fun h60 => ?_⟩
  · have e : u + 1 - 1 = u := by omega
    exact al_min h60 (by rw [e]; exact h.1.1.1.2) (by rw [e]; exact h.1.1.2) (by rw [e]; exact h.1.2)
  · have e1 := same_min (s := s) (u := u + 1) (v := u) (by omega)
    have e := same_day (s := s) e1.1
    exact ⟨⟨⟨⟨⟨⟨⟨h0.1, by omega⟩, hnf, ⟨by omega, h.1.1.1.1.1.2.2.1.2⟩, fun hb => by cases hb⟩, by rw [e.2.2]; exact hy2⟩, by rw [e.1]; exact h.1.1.1.2⟩, by rw [e.2.1]; exact h.1.1.2⟩, by rw [e1.2.1]; exact h.1.2⟩, by rw [e1.2.2]; exact h.2⟩
theorem SInv.weak {s : Sched} {first lim : Int} {b : Bool} {u : Int} (h : SInv s first lim b u) : SInv s first lim false u :=
  ⟨⟨⟨⟨⟨⟨h.1.1.1.1.1.1, h.1.1.1.1.1.2.1, h.1.1.1.1.1.2.2.1, fun hb => by cases hb⟩, h.1.1.1.1.2⟩, h.1.1.1.2⟩, h.1.1.2⟩, h.1.2⟩, h.2⟩
theorem SInv.done {s : Sched} {first lim : Int} {b : Bool} {u : Int} (h : SInv s first lim b u) (hh : seOK s u = true) : fits s u = true := by
  unfold fits; rw [h.1.1.1.2, h.1.1.2, h.1.2, h.2, hh]; rfl
end Go.Proofs.YtkhggefbkhdimaaGreatDoor
