/- The reference's calendar: CronDateOf, CronTomorrow; a zone without offsets. -/
import Derived.Test.YtpgclepiagfgfaaTsA
import Derived.Test.YtpgclepiagfgfaaTmZ
namespace Go.Proofs.Ytpgclepiagfgfaa
open Go.RowKit
set_option linter.unusedVariables false
set_option linter.unusedSimpArgs false

theorem ystart_lo {y n : Int} (h : ystart y ≤ n) (h1 : n < 6225283) : y ≤ 20000 := by unfold ystart at h; omega
theorem ystart_hi {y n : Int} (h : n < ystart (y + 1)) (h1 : -719162 ≤ n) : 1 ≤ y := by unfold ystart at h; omega
theorem ystart_guess (n : Int) (h0 : -719162 ≤ n) : (0 ≤ n → ystart (1970 + n / 366) ≤ n) ∧ (n < 0 → ystart (1970 + n / 365 - 1) ≤ n) := by
  constructor
  · intro h; unfold ystart; omega
  · intro h; unfold ystart; omega
theorem date_found {n y m : Int} (h1 : 1 ≤ m) (h2 : m ≤ 12) (h3 : 0 ≤ n - ystart y - cumD y m) (h4 : n - ystart y - cumD y m < mdays y m) : yearOf n = y ∧ monthOf n = m ∧ dayOf n = n - ystart y - cumD y m + 1 :=
  date_is ⟨h1, h2, by omega, by omega, by unfold dayNo; omega⟩

set_option maxHeartbeats 4000000 in
theorem dateOf_any (n : Int) (h0 : -719162 ≤ n) (h1 : n < 6225283) (w : World) :
    Calls Try.prog 39 #[.int .i64 n] w fun e w' => e = .returned (.agg #[.int .i64 (yearOf n), .int .i64 (monthOf n), .int .i64 (dayOf n)]) ∧ Below w.heap.size w w' := by
  have G := ystart_guess n h0
  by_cases hn : 0 ≤ n
  · have hg := G.1 hn
    clear G
    have hnn : ¬ n < 0 := by omega
    go_enter Try.func39, Try.ntmps39
    go_wp2_with fail
    refine (floorDiv_any n 366 (by omega) (by omega) (by omega) (by omega) _).mono ?_
    rintro e w1 ⟨rfl, rfl⟩
    go_wp2_with fail
    go_loop [3] (fun t => ∃ y : Int, -10 ≤ y ∧ y ≤ 20000 ∧ ystart y ≤ n ∧ t = .int .i64 y) (fun t => (30000 - intOf t).toNat)
    case atStart => exact ⟨_, by omega, by omega, hg, rfl⟩
    case round =>
      obtain ⟨y, hy0, hy1, hy2, rfl⟩ := hrel
      by_cases hc : ystart (y + 1) ≤ n
      · have hb := ystart_lo hc h1
        go_wp2_with (refine (yearStart_any (y + 1) (by omega) (by omega) _).mono ?_; rintro e w' ⟨rfl, rfl⟩)
        go_round
        case rel => exact ⟨y + 1, by omega, by omega, hc, rfl⟩
        case measure => simp [intOf]; omega
      · have hy3 : 1 ≤ y := ystart_hi (by omega) h0
        have hy4 : n < ystart (y + 1) := by omega
        have ya : 0 ≤ n - ystart y := by omega
        have yc : n - ystart y ≤ 366 := by have := ystart_succ y; have := leapN_01 y; omega
        go_wp2_with (refine (yearStart_any _ (by omega) (by omega) _).mono ?_; rintro e w' ⟨rfl, rfl⟩)
        clear hc
        go_loop [4, 5] (fun r k => ∃ m : Int, 1 ≤ m ∧ m ≤ 12 ∧ k = .int .i64 m ∧ 0 ≤ n - ystart y - cumD y m ∧ r = .int .i64 (n - ystart y - cumD y m)) (fun _ k => (12 - intOf k).toNat)
        case atStart => exact ⟨1, by omega, by omega, rfl, by simp [cumD]; omega, by simp [cumD]⟩
        case round =>
          obtain ⟨m, hm1, hm2, rfl, hr, rfl⟩ := hrel
          have cs := cumD_succ y m hm1 hm2
          have md := mdays_bd y m
          have HCS := Lib.hid cs
          clear cs
          obtain ⟨r, hrr⟩ : ∃ r, r = n - ystart y - cumD y m := ⟨_, rfl⟩
          have yb : ystart y ≤ 10000000 := by omega
          have yb2 : -800000 ≤ ystart y := by have := ystart_mono hy3; have e : ystart 1 = -719162 := by decide
                                              omega
          rw [← hrr] at hr
          rw [← hrr]
          have HR := Lib.hid hrr
          have r1 : r ≤ 20000000 := by have := cumD_bd y m hm1 hm2; have := mdays_bd y m; omega
          clear hrr
          obtain ⟨q, hq⟩ : ∃ q, Hid (mdays y m = q) := ⟨_, rfl⟩
          rw [hq.out] at md
          have HM : Hid (∀ W, Calls Try.prog 60 #[.int .i64 y, .int .i64 m] W fun e w' => e = .returned (.int .i64 q) ∧ W = w') := by
            have := monthDays_any y m (by omega) (by omega) hm1 hm2
            rw [hq.out] at this
            exact this
          by_cases hc : q ≤ r
          · have hm12 : m < 12 := by
              rcases (show m = 12 ∨ m < 12 by omega) with e | e
              · exfalso
                have e1 := HR.out
                have e2 := hq.out
                rw [ystart_succ] at hy4
                have := leapN_01 y
                subst e
                simp [cumD, mdays] at e1 e2
                omega
              · exact e
            go_wp2_with (refine (HM.out _).mono ?_; rintro e w' ⟨rfl, rfl⟩)
            go_round
            case rel => exact ⟨m + 1, by omega, by omega, rfl, by rw [HCS.out]; have := HR.out; have := hq.out; omega, by rw [HCS.out]; have := HR.out; have := hq.out; congr 1; omega⟩
            case measure => simp [intOf]; omega
          · have HD := Lib.hid (date_found (n := n) (y := y) hm1 hm2 (by have := HR.out; omega) (by have := HR.out; have := hq.out; omega))
            go_wp2_with (refine (HM.out _).mono ?_; rintro e w' ⟨rfl, rfl⟩)
            refine bodyPost_ret (v := .agg #[.int .i64 y, .int .i64 m, .int .i64 (r + 1)]) (by simp [results, Try.results39, go_sem]) rfl ⟨ret_date HD.out.1.symm HD.out.2.1.symm (by rw [HD.out.2.2, HR.out]), ?_⟩
            exact (by repeat (first | (with_reducible assumption) | (with_reducible exact Below.refl _ _) | (with_reducible refine Below.setCell ?_ (by first | omega | (simp <;> omega)) _) | refine below_drewN ?_ _ | refine Below.drew ?_ | refine Below.alloc ?_ (by first | omega | (simp <;> omega)) _))
  · have hg := G.2 (by omega)
    clear G
    have hnn : n < 0 := by omega
    go_enter Try.func39, Try.ntmps39
    go_wp2_with fail
    refine (floorDiv_any n 366 (by omega) (by omega) (by omega) (by omega) _).mono ?_
    rintro e w1 ⟨rfl, rfl⟩
    go_wp2_with fail
    refine (floorDiv_any n 365 (by omega) (by omega) (by omega) (by omega) _).mono ?_
    rintro e w1 ⟨rfl, rfl⟩
    go_wp2_with fail
    go_loop [3] (fun t => ∃ y : Int, -10 ≤ y ∧ y ≤ 20000 ∧ ystart y ≤ n ∧ t = .int .i64 y) (fun t => (30000 - intOf t).toNat)
    case atStart => exact ⟨_, by omega, by omega, hg, rfl⟩
    case round =>
      obtain ⟨y, hy0, hy1, hy2, rfl⟩ := hrel
      by_cases hc : ystart (y + 1) ≤ n
      · have hb := ystart_lo hc h1
        go_wp2_with (refine (yearStart_any (y + 1) (by omega) (by omega) _).mono ?_; rintro e w' ⟨rfl, rfl⟩)
        go_round
        case rel => exact ⟨y + 1, by omega, by omega, hc, rfl⟩
        case measure => simp [intOf]; omega
      · have hy3 : 1 ≤ y := ystart_hi (by omega) h0
        have hy4 : n < ystart (y + 1) := by omega
        have ya : 0 ≤ n - ystart y := by omega
        have yc : n - ystart y ≤ 366 := by have := ystart_succ y; have := leapN_01 y; omega
        go_wp2_with (refine (yearStart_any _ (by omega) (by omega) _).mono ?_; rintro e w' ⟨rfl, rfl⟩)
        clear hc
        go_loop [4, 5] (fun r k => ∃ m : Int, 1 ≤ m ∧ m ≤ 12 ∧ k = .int .i64 m ∧ 0 ≤ n - ystart y - cumD y m ∧ r = .int .i64 (n - ystart y - cumD y m)) (fun _ k => (12 - intOf k).toNat)
        case atStart => exact ⟨1, by omega, by omega, rfl, by simp [cumD]; omega, by simp [cumD]⟩
        case round =>
          obtain ⟨m, hm1, hm2, rfl, hr, rfl⟩ := hrel
          have cs := cumD_succ y m hm1 hm2
          have md := mdays_bd y m
          have HCS := Lib.hid cs
          clear cs
          obtain ⟨r, hrr⟩ : ∃ r, r = n - ystart y - cumD y m := ⟨_, rfl⟩
          have yb : ystart y ≤ 10000000 := by omega
          have yb2 : -800000 ≤ ystart y := by have := ystart_mono hy3; have e : ystart 1 = -719162 := by decide
                                              omega
          rw [← hrr] at hr
          rw [← hrr]
          have HR := Lib.hid hrr
          have r1 : r ≤ 20000000 := by have := cumD_bd y m hm1 hm2; have := mdays_bd y m; omega
          clear hrr
          obtain ⟨q, hq⟩ : ∃ q, Hid (mdays y m = q) := ⟨_, rfl⟩
          rw [hq.out] at md
          have HM : Hid (∀ W, Calls Try.prog 60 #[.int .i64 y, .int .i64 m] W fun e w' => e = .returned (.int .i64 q) ∧ W = w') := by
            have := monthDays_any y m (by omega) (by omega) hm1 hm2
            rw [hq.out] at this
            exact this
          by_cases hc : q ≤ r
          · have hm12 : m < 12 := by
              rcases (show m = 12 ∨ m < 12 by omega) with e | e
              · exfalso
                have e1 := HR.out
                have e2 := hq.out
                rw [ystart_succ] at hy4
                have := leapN_01 y
                subst e
                simp [cumD, mdays] at e1 e2
                omega
              · exact e
            go_wp2_with (refine (HM.out _).mono ?_; rintro e w' ⟨rfl, rfl⟩)
            go_round
            case rel => exact ⟨m + 1, by omega, by omega, rfl, by rw [HCS.out]; have := HR.out; have := hq.out; omega, by rw [HCS.out]; have := HR.out; have := hq.out; congr 1; omega⟩
            case measure => simp [intOf]; omega
          · have HD := Lib.hid (date_found (n := n) (y := y) hm1 hm2 (by have := HR.out; omega) (by have := HR.out; have := hq.out; omega))
            go_wp2_with (refine (HM.out _).mono ?_; rintro e w' ⟨rfl, rfl⟩)
            refine bodyPost_ret (v := .agg #[.int .i64 y, .int .i64 m, .int .i64 (r + 1)]) (by simp [results, Try.results39, go_sem]) rfl ⟨ret_date HD.out.1.symm HD.out.2.1.symm (by rw [HD.out.2.2, HR.out]), ?_⟩
            exact (by repeat (first | (with_reducible assumption) | (with_reducible exact Below.refl _ _) | (with_reducible refine Below.setCell ?_ (by first | omega | (simp <;> omega)) _) | refine below_drewN ?_ _ | refine Below.drew ?_ | refine Below.alloc ?_ (by first | omega | (simp <;> omega)) _))

set_option maxHeartbeats 400000 in
theorem offset_any (sec : Int) (w : World) :
    Calls Try.prog 38 #[.agg #[.slice none 0 0, .slice none 0 0, .slice none 0 0, .slice none 0 0], .int .i64 sec] w fun e w' => e = .returned (.int .i64 0) ∧ Below w.heap.size w w' := by
  go_enter Try.func38, Try.ntmps38
  go_wp2_with fail
  refine wp_loop_rounds 1 ?_
  rw [rounds_succ]
  go_wp2_with fail
  go_ret
  exact ⟨rfl, (by repeat (first | (with_reducible assumption) | (with_reducible exact Below.refl _ _) | (with_reducible refine Below.setCell ?_ (by first | omega | (simp <;> omega)) _) | refine below_drewN ?_ _ | refine Below.drew ?_ | refine Below.alloc ?_ (by first | omega | (simp <;> omega)) _))⟩

set_option maxHeartbeats 400000 in
theorem change_any (sec : Int) (w : World) :
    Calls Try.prog 41 #[.agg #[.slice none 0 0, .slice none 0 0, .slice none 0 0, .slice none 0 0], .int .i64 sec] w fun e w' => e = .returned (.tuple #[.int .i64 0, .bool false]) ∧ Below w.heap.size w w' := by
  go_enter Try.func41, Try.ntmps41
  go_wp2_with fail
  refine wp_loop_rounds 1 ?_
  rw [rounds_succ]
  go_wp2_with fail
  go_ret2
  exact ⟨rfl, (by repeat (first | (with_reducible assumption) | (with_reducible exact Below.refl _ _) | (with_reducible refine Below.setCell ?_ (by first | omega | (simp <;> omega)) _) | refine below_drewN ?_ _ | refine Below.drew ?_ | refine Below.alloc ?_ (by first | omega | (simp <;> omega)) _))⟩

set_option maxHeartbeats 400000 in
theorem cronUTC_any (w : World) :
    Calls Try.prog 19 #[] w fun e w' => e = .returned (.agg #[.slice none 0 0, .slice none 0 0, .slice none 0 0, .slice none 0 0]) ∧ Below w.heap.size w w' := by
  go_enter Try.func19, Try.ntmps19
  go_wp2_with fail
  refine bodyPost_ret (v := .agg #[.slice none 0 0, .slice none 0 0, .slice none 0 0, .slice none 0 0]) (by simp [results, Try.results19, go_sem]) rfl ⟨rfl, ?_⟩
  exact (by repeat (first | (with_reducible assumption) | (with_reducible exact Below.refl _ _) | (with_reducible refine Below.setCell ?_ (by first | omega | (simp <;> omega)) _) | refine below_drewN ?_ _ | refine Below.drew ?_ | refine Below.alloc ?_ (by first | omega | (simp <;> omega)) _))

end Go.Proofs.Ytpgclepiagfgfaa
