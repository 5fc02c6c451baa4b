/- From a date to a day as pub/gotime does it, plain. -/
import Derived.Test.YtpgclepiagfgfaaPCalB
namespace Go.Proofs.Ytpgclepiagfgfaa
set_option linter.unusedVariables false
set_option linter.unusedSimpArgs false

/-- Days ahead of the years of the calendar that begins in March, and of its months. -/
theorem abs_of (y : Int) (h0 : 0 ≤ y) (h1 : y ≤ 100000) (j : Int) (hj : j = 0 ∨ j = 1) :
    146097 * ((y - j + 292277022400) / 100) / 4 + 1461 * ((y - j + 292277022400) % 100) / 4 = 365 * (y - j) + (y - j) / 4 - (y - j) / 100 + (y - j) / 400 + 146097 * 730692556 := by
  obtain ⟨x, hx⟩ : ∃ x, y - j = x := ⟨_, rfl⟩
  rw [hx]
  have hx0 : -1 ≤ x := by omega
  clear hj hx h0 h1
  obtain ⟨c, q, rfl, q0, q1⟩ : ∃ c q : Int, x = 100 * c + q ∧ 0 ≤ q ∧ q ≤ 99 := ⟨x / 100, x % 100, by omega, by omega, by omega⟩
  have e1 : (100 * c + q + 292277022400) / 100 = c + 2922770224 := by omega
  have e2 : (100 * c + q + 292277022400) % 100 = q := by omega
  have d4 : (100 * c + q) / 4 = 25 * c + q / 4 := by omega
  have d100 : (100 * c + q) / 100 = c := by omega
  have d400 : (100 * c + q) / 400 = c / 4 := by omega
  have e3 : 146097 * (c + 2922770224) / 4 = 36524 * c + c / 4 + 146097 * 730692556 := by omega
  have e4 : 1461 * q / 4 = 365 * q + q / 4 := by omega
  rw [e1, e2, e3, e4, d4, d100, d400]
  omega
theorem shr5 (a : Int) (h0 : 3 ≤ a) (h1 : a ≤ 14) : (979 * a - 2919) / 32 = (153 * a - 457) / 5 := by
  have : a = 3 ∨ a = 4 ∨ a = 5 ∨ a = 6 ∨ a = 7 ∨ a = 8 ∨ a = 9 ∨ a = 10 ∨ a = 11 ∨ a = 12 ∨ a = 13 ∨ a = 14 := by omega
  rcases this with rfl | rfl | rfl | rfl | rfl | rfl | rfl | rfl | rfl | rfl | rfl | rfl <;> rfl
/-- The absolute day of a date: j = 1 in January and February. -/
theorem absDay_eq (y m d j : Int) (h1 : 1 ≤ m) (h2 : m ≤ 12) (hj : (m < 3 ∧ j = 1) ∨ (3 ≤ m ∧ j = 0)) :
    365 * (y - j) + (y - j) / 4 - (y - j) / 100 + (y - j) / 400 + (153 * (m + 12 * j) - 457) / 5 + d - 1 = dayNo y m d + 719468 := by
  unfold dayNo
  rcases hj with ⟨hm, rfl⟩ | ⟨hm, rfl⟩
  · have : m = 1 ∨ m = 2 := by omega
    rcases this with rfl | rfl <;> simp [cumD, ystart] <;> omega
  · have hl : leapN y = y / 4 - (y - 1) / 4 - (y / 100 - (y - 1) / 100) + (y / 400 - (y - 1) / 400) := leapN_eq y
    have : m = 3 ∨ m = 4 ∨ m = 5 ∨ m = 6 ∨ m = 7 ∨ m = 8 ∨ m = 9 ∨ m = 10 ∨ m = 11 ∨ m = 12 := by omega
    rcases this with rfl | rfl | rfl | rfl | rfl | rfl | rfl | rfl | rfl | rfl <;> simp [cumD, ystart] <;> omega
theorem dayNo_bd (y m d : Int) (h0 : 0 ≤ y) (h1 : y ≤ 20001) (m1 : 1 ≤ m) (m2 : m ≤ 12) (d1 : 1 ≤ d) (d2 : d ≤ 32) : -719528 ≤ dayNo y m d ∧ dayNo y m d ≤ 6700000 := by
  have := cumD_bd y m m1 m2
  have := mdays_bd y m
  have := leapN_01 y
  unfold dayNo ystart; omega
end Go.Proofs.Ytpgclepiagfgfaa
