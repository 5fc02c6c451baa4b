/- The reference's calendar: floorDiv, CronDateOf and so on. -/
import Derived.Test.YtpgclepiagfgfaaTmV
import Derived.Test.YtpgclepiagfgfaaPNext
import Derived.Test.YtpgclepiagfgfaaTo
namespace Go.Proofs.Ytpgclepiagfgfaa
open Go.RowKit
set_option linter.unusedVariables false
set_option linter.unusedSimpArgs false

theorem fd_eq (a b : Int) (hb : 0 < b) : (a.tmod b < 0 → a / b = a.tdiv b - 1) ∧ (¬ a.tmod b < 0 → a / b = a.tdiv b) := by
  rw [Int.tdiv_eq_ediv, Int.tmod_eq_emod]
  have h0 := Int.emod_nonneg a (show b ≠ 0 by omega)
  have h1 := Int.emod_lt_of_pos a hb
  by_cases h : 0 ≤ a ∨ b ∣ a
  · rw [if_pos h, if_pos h]; omega
  · rw [if_neg h, if_neg h, Int.sign_eq_one_of_pos hb]; omega
abbrev dateA (y m d : Int) : Array Value := #[.int .i64 y, .int .i64 m, .int .i64 d]
theorem ret_date {y m d y' m' d' : Int} (h : y = y') (k : m = m') (l : d = d') : Ending.returned (.agg #[.int .i64 y, .int .i64 m, .int .i64 d]) = .returned (.agg #[.int .i64 y', .int .i64 m', .int .i64 d']) := by rw [h, k, l]

set_option maxHeartbeats 400000 in
theorem floorDiv_any (a b : Int) (h0 : 0 < b) (h1 : b ≤ 1000000) (h2 : -1000000000000000 < a) (h3 : a < 1000000000000000) (w : World) :
    Calls Try.prog 40 #[.int .i64 a, .int .i64 b] w fun e w' => e = .returned (.int .i64 (a / b)) ∧ w = w' := by
  have HK := Lib.hid (fd_eq a b h0)
  have hq : -1000000000000000 ≤ a.tdiv b ∧ a.tdiv b ≤ 1000000000000000 := by
    have k := Int.natAbs_tdiv_le_natAbs a b
    omega
  by_cases h : a.tmod b < 0
  · go_enter Try.func40, Try.ntmps40
    go_wp2_with fail
    go_ret
    exact ⟨ret_i64 (HK.out.1 h).symm, rfl⟩
  · go_enter Try.func40, Try.ntmps40
    go_wp2_with fail
    go_ret
    exact ⟨ret_i64 (HK.out.2 h).symm, rfl⟩

set_option maxHeartbeats 400000 in
theorem floorMod7_any (a : Int) (h2 : -1000000000000 < a) (h3 : a < 1000000000000) (w : World) :
    Calls Try.prog 48 #[.int .i64 a, .int .i64 7] w fun e w' => e = .returned (.int .i64 (a % 7)) ∧ w = w' := by
  go_enter Try.func48, Try.ntmps48
  go_wp2_with (refine (floorDiv_any a 7 (by omega) (by omega) (by omega) (by omega) _).mono ?_; rintro e w' ⟨rfl, rfl⟩)
  go_ret
  exact ⟨ret_i64 (by omega), rfl⟩

set_option maxHeartbeats 400000 in
theorem weekdayS_any (n : Int) (h2 : -100000000 < n) (h3 : n < 100000000) (w : World) :
    Calls Try.prog 58 #[.int .i64 n] w fun e w' => e = .returned (.int .i64 ((n + 4) % 7)) ∧ w = w' := by
  go_enter Try.func58, Try.ntmps58
  go_wp2_with (refine (floorMod7_any (n + 4) (by omega) (by omega) _).mono ?_; rintro e w' ⟨rfl, rfl⟩)
  go_ret
  exact ⟨rfl, rfl⟩

theorem leapB_eq (y : Int) : decide (leapN y = 1) = ((y % 4 == 0) && ((y % 100 != 0) || (y % 400 == 0))) := by
  unfold leapN
  by_cases a4 : y % 4 = 0 <;> by_cases a100 : y % 100 = 0 <;> by_cases a400 : y % 400 = 0 <;> simp [a4, a100, a400]
set_option maxHeartbeats 400000 in
theorem leap_any (y : Int) (h0 : 0 ≤ y) (h1 : y ≤ 100000) (w : World) :
    Calls Try.prog 78 #[.int .i64 y] w fun e w' => e = .returned (.bool (decide (leapN y = 1))) ∧ w = w' := by
  rw [leapB_eq]
  cases q1 : (y % 4 == 0) <;> cases q2 : (y % 100 != 0) <;> cases q3 : (y % 400 == 0)
  all_goals
    go_enter Try.func78, Try.ntmps78
    go_wp2_with fail
    go_ret
    exact ⟨rfl, rfl⟩

set_option maxHeartbeats 400000 in
theorem monthDays_any (y m : Int) (h0 : 0 ≤ y) (h1 : y ≤ 100000) (m1 : 1 ≤ m) (m2 : m ≤ 12) (w : World) :
    Calls Try.prog 60 #[.int .i64 y, .int .i64 m] w fun e w' => e = .returned (.int .i64 (mdays y m)) ∧ w = w' := by
  obtain ⟨L, hL⟩ : ∃ L, Hid (leapN y = L) := ⟨_, rfl⟩
  have hl := leapN_01 y
  have hC := leap_any y h0 h1 w
  rw [hL.out] at hC hl
  have HC := Lib.hid hC
  clear hC
  rcases month_cases m1 m2 with rfl | rfl | rfl | rfl | rfl | rfl | rfl | rfl | rfl | rfl | rfl | rfl
  all_goals
    go_enter Try.func60, Try.ntmps60
    go_wp2_with fail
    first
      | (go_ret
         exact ⟨rfl, rfl⟩)
      | (refine HC.out.mono ?_
         rintro e w1 ⟨rfl, rfl⟩
         rcases hl with rfl | rfl
         · go_wp2_with fail
           go_ret
           exact ⟨ret_i64 (by show _ = 28 + leapN y; rw [hL.out]; omega), rfl⟩
         · go_wp2_with fail
           go_ret
           exact ⟨ret_i64 (by show _ = 28 + leapN y; rw [hL.out]; omega), rfl⟩)

set_option maxHeartbeats 400000 in
theorem yearStart_any (y : Int) (h0 : -100000 ≤ y) (h1 : y ≤ 100000) (w : World) :
    Calls Try.prog 59 #[.int .i64 y] w fun e w' => e = .returned (.int .i64 (ystart y)) ∧ w = w' := by
  go_enter Try.func59, Try.ntmps59
  go_wp2_with fail
  refine (floorDiv_any (y - 1) 4 (by omega) (by omega) (by omega) (by omega) _).mono ?_
  rintro e w1 ⟨rfl, rfl⟩
  go_wp2_with fail
  refine (floorDiv_any (y - 1) 100 (by omega) (by omega) (by omega) (by omega) _).mono ?_
  rintro e w1 ⟨rfl, rfl⟩
  go_wp2_with fail
  refine (floorDiv_any (y - 1) 400 (by omega) (by omega) (by omega) (by omega) _).mono ?_
  rintro e w1 ⟨rfl, rfl⟩
  go_wp2_with fail
  go_ret
  exact ⟨ret_i64 (by unfold ystart; omega), rfl⟩

end Go.Proofs.Ytpgclepiagfgfaa
