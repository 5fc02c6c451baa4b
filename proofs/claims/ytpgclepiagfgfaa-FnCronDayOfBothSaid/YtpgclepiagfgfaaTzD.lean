/- The calendar one day further back: split, CronDateOf, CronClock. -/
import Derived.Test.YtpgclepiagfgfaaTzB
namespace Go.Proofs.Ytpgclepiagfgfaa
open Go.RowKit
set_option linter.unusedVariables false
set_option linter.unusedSimpArgs false

set_option maxHeartbeats 400000 in
theorem splitD_any (n : Int) (h0 : -719400 ≤ n) (h1 : n < 100000000) (w : World) :
    Calls Try.prog 84 #[.int .u64 (n + 106751991073400)] w fun e w' => e = .returned (.tuple #[.int .u64 (marchC n + 2922770224), .int .i64 (marchQ n), .int .i64 (marchA n)]) ∧ w = w' := by
  have hC := abs_century n
  have hb := march_bd n
  have hO : bits .or .u32 ((4 * (n + 106751991073400) + 3) % 146097) 3 = 4 * marchR n + 3 := by
    rw [or3 _ (by omega) (by omega), hC.2]; unfold marchR; omega
  have hK := cut1461 (marchR n) (by omega) (by omega)
  have HC := Lib.hid hC
  have HK := Lib.hid hK
  clear hC hK
  have r0 : 0 ≤ marchR n := hb.1
  have r1 : marchR n ≤ 36524 := hb.2.1
  have HB := Lib.hid hb
  clear hb
  go_enter Try.func84, Try.ntmps84
  go_wp2_with fail
  refine (mul32_any 2939745 (4 * marchR n + 3) (by omega) (by omega) (by omega) (by omega) _ (by rw [IntKind.wrap_u64]; omega) (by omega) (by omega)).mono ?_
  rintro e w1 ⟨rfl, rfl⟩
  rw [HK.out.1]
  obtain ⟨l, hl, hl2⟩ : ∃ l : Int, 2939745 * (4 * marchR n + 3) % 4294967296 = l ∧ 0 ≤ l ∧ l < 4294967296 := ⟨_, rfl, by omega, by omega⟩
  have HL := Lib.hid (show l / 2939745 / 4 = (4 * marchR n + 3) % 1461 / 4 by rw [← hl]; exact HK.out.2)
  rw [hl]
  clear hl
  have q0 : 0 ≤ (4 * marchR n + 3) / 1461 ∧ (4 * marchR n + 3) / 1461 < 100 := by omega
  go_wp2_with fail
  go_ret3
  exact ⟨tup3 (u64_eq HC.out.1) (i64_eq rfl) (i64_eq HL.out), rfl⟩

theorem ystartD_hi {y n : Int} (h : n < ystart (y + 1)) (h1 : -719163 ≤ n) : 0 ≤ y := by unfold ystart at h; omega
theorem ystartD_guess (n : Int) (h0 : -719163 ≤ n) : (0 ≤ n → ystart (1970 + n / 366) ≤ n) ∧ (n < 0 → ystart (1970 + n / 365 - 1) ≤ n) := by
  constructor
  · intro h; unfold ystart; omega
  · intro h; unfold ystart; omega
set_option maxHeartbeats 4000000 in
theorem dateOfD_any (n : Int) (h0 : -719163 ≤ n) (h1 : n < 6225283) (w : World) :
    Calls Try.prog 39 #[.int .i64 n] w fun e w' => e = .returned (.agg #[.int .i64 (yearOf n), .int .i64 (monthOf n), .int .i64 (dayOf n)]) ∧ Below w.heap.size w w' := by
  have G := ystartD_guess n h0
  by_cases hn : 0 ≤ n
  · have hg := G.1 hn
    clear G
    have hnn : ¬ n < 0 := by omega
    go_enter Try.func39, Try.ntmps39
    go_wp2_with fail
    refine (floorDiv_any n 366 (by omega) (by omega) (by omega) (by omega) _).mono ?_
    rintro e w1 ⟨rfl, rfl⟩
    go_wp2_with fail
    go_loop [3] (fun t => ∃ y : Int, -10 ≤ y ∧ y ≤ 20000 ∧ ystart y ≤ n ∧ t = .int .i64 y) (fun t => (30000 - intOf t).toNat)
    case atStart => exact ⟨_, by omega, by omega, hg, rfl⟩
    case round =>
      obtain ⟨y, hy0, hy1, hy2, rfl⟩ := hrel
      by_cases hc : ystart (y + 1) ≤ n
      · have hb := ystart_lo hc h1
        go_wp2_with (refine (yearStart_any (y + 1) (by omega) (by omega) _).mono ?_; rintro e w' ⟨rfl, rfl⟩)
        go_round
        case rel => exact ⟨y + 1, by omega, by omega, hc, rfl⟩
        case measure => simp [intOf]; omega
      · have hy3 : 0 ≤ y := ystartD_hi (by omega) h0
        have hy4 : n < ystart (y + 1) := by omega
        have ya : 0 ≤ n - ystart y := by omega
        have yc : n - ystart y ≤ 366 := by have := ystart_succ y; have := leapN_01 y; omega
        go_wp2_with (refine (yearStart_any _ (by omega) (by omega) _).mono ?_; rintro e w' ⟨rfl, rfl⟩)
        clear hc
        go_loop [4, 5] (fun r k => ∃ m : Int, 1 ≤ m ∧ m ≤ 12 ∧ k = .int .i64 m ∧ 0 ≤ n - ystart y - cumD y m ∧ r = .int .i64 (n - ystart y - cumD y m)) (fun _ k => (12 - intOf k).toNat)
        case atStart => exact ⟨1, by omega, by omega, rfl, by simp [cumD]; omega, by simp [cumD]⟩
        case round =>
          obtain ⟨m, hm1, hm2, rfl, hr, rfl⟩ := hrel
          have cs := cumD_succ y m hm1 hm2
          have md := mdays_bd y m
          have HCS := Lib.hid cs
          clear cs
          obtain ⟨r, hrr⟩ : ∃ r, r = n - ystart y - cumD y m := ⟨_, rfl⟩
          have yb : ystart y ≤ 10000000 := by omega
          have yb2 : -800000 ≤ ystart y := by have := ystart_mono hy3; have e : ystart 0 = -719528 := by decide
                                              omega
          rw [← hrr] at hr
          rw [← hrr]
          have HR := Lib.hid hrr
          have r1 : r ≤ 20000000 := by have := cumD_bd y m hm1 hm2; have := mdays_bd y m; omega
          clear hrr
          obtain ⟨q, hq⟩ : ∃ q, Hid (mdays y m = q) := ⟨_, rfl⟩
          rw [hq.out] at md
          have HM : Hid (∀ W, Calls Try.prog 60 #[.int .i64 y, .int .i64 m] W fun e w' => e = .returned (.int .i64 q) ∧ W = w') := by
            have := monthDays_any y m (by omega) (by omega) hm1 hm2
            rw [hq.out] at this
            exact this
          by_cases hc : q ≤ r
          · have hm12 : m < 12 := by
              rcases (show m = 12 ∨ m < 12 by omega) with e | e
              · exfalso
                have e1 := HR.out
                have e2 := hq.out
                rw [ystart_succ] at hy4
                have := leapN_01 y
                subst e
                simp [cumD, mdays] at e1 e2
                omega
              · exact e
            go_wp2_with (refine (HM.out _).mono ?_; rintro e w' ⟨rfl, rfl⟩)
            go_round
            case rel => exact ⟨m + 1, by omega, by omega, rfl, by rw [HCS.out]; have := HR.out; have := hq.out; omega, by rw [HCS.out]; have := HR.out; have := hq.out; congr 1; omega⟩
            case measure => simp [intOf]; omega
          · have HD := Lib.hid (date_found (n := n) (y := y) hm1 hm2 (by have := HR.out; omega) (by have := HR.out; have := hq.out; omega))
            go_wp2_with (refine (HM.out _).mono ?_; rintro e w' ⟨rfl, rfl⟩)
            refine bodyPost_ret (v := .agg #[.int .i64 y, .int .i64 m, .int .i64 (r + 1)]) (by simp [results, Try.results39, go_sem]) rfl ⟨ret_date HD.out.1.symm HD.out.2.1.symm (by rw [HD.out.2.2, HR.out]), ?_⟩
            exact (by repeat (first | (with_reducible assumption) | (with_reducible exact Below.refl _ _) | (with_reducible refine Below.setCell ?_ (by first | omega | (simp <;> omega)) _) | refine below_drewN ?_ _ | refine Below.drew ?_ | refine Below.alloc ?_ (by first | omega | (simp <;> omega)) _))
  · have hg := G.2 (by omega)
    clear G
    have hnn : n < 0 := by omega
    go_enter Try.func39, Try.ntmps39
    go_wp2_with fail
    refine (floorDiv_any n 366 (by omega) (by omega) (by omega) (by omega) _).mono ?_
    rintro e w1 ⟨rfl, rfl⟩
    go_wp2_with fail
    refine (floorDiv_any n 365 (by omega) (by omega) (by omega) (by omega) _).mono ?_
    rintro e w1 ⟨rfl, rfl⟩
    go_wp2_with fail
    go_loop [3] (fun t => ∃ y : Int, -10 ≤ y ∧ y ≤ 20000 ∧ ystart y ≤ n ∧ t = .int .i64 y) (fun t => (30000 - intOf t).toNat)
    case atStart => exact ⟨_, by omega, by omega, hg, rfl⟩
    case round =>
      obtain ⟨y, hy0, hy1, hy2, rfl⟩ := hrel
      by_cases hc : ystart (y + 1) ≤ n
      · have hb := ystart_lo hc h1
        go_wp2_with (refine (yearStart_any (y + 1) (by omega) (by omega) _).mono ?_; rintro e w' ⟨rfl, rfl⟩)
        go_round
        case rel => exact ⟨y + 1, by omega, by omega, hc, rfl⟩
        case measure => simp [intOf]; omega
      · have hy3 : 0 ≤ y := ystartD_hi (by omega) h0
        have hy4 : n < ystart (y + 1) := by omega
        have ya : 0 ≤ n - ystart y := by omega
        have yc : n - ystart y ≤ 366 := by have := ystart_succ y; have := leapN_01 y; omega
        go_wp2_with (refine (yearStart_any _ (by omega) (by omega) _).mono ?_; rintro e w' ⟨rfl, rfl⟩)
        clear hc
        go_loop [4, 5] (fun r k => ∃ m : Int, 1 ≤ m ∧ m ≤ 12 ∧ k = .int .i64 m ∧ 0 ≤ n - ystart y - cumD y m ∧ r = .int .i64 (n - ystart y - cumD y m)) (fun _ k => (12 - intOf k).toNat)
        case atStart => exact ⟨1, by omega, by omega, rfl, by simp [cumD]; omega, by simp [cumD]⟩
        case round =>
          obtain ⟨m, hm1, hm2, rfl, hr, rfl⟩ := hrel
          have cs := cumD_succ y m hm1 hm2
          have md := mdays_bd y m
          have HCS := Lib.hid cs
          clear cs
          obtain ⟨r, hrr⟩ : ∃ r, r = n - ystart y - cumD y m := ⟨_, rfl⟩
          have yb : ystart y ≤ 10000000 := by omega
          have yb2 : -800000 ≤ ystart y := by have := ystart_mono hy3; have e : ystart 0 = -719528 := by decide
                                              omega
          rw [← hrr] at hr
          rw [← hrr]
          have HR := Lib.hid hrr
          have r1 : r ≤ 20000000 := by have := cumD_bd y m hm1 hm2; have := mdays_bd y m; omega
          clear hrr
          obtain ⟨q, hq⟩ : ∃ q, Hid (mdays y m = q) := ⟨_, rfl⟩
          rw [hq.out] at md
          have HM : Hid (∀ W, Calls Try.prog 60 #[.int .i64 y, .int .i64 m] W fun e w' => e = .returned (.int .i64 q) ∧ W = w') := by
            have := monthDays_any y m (by omega) (by omega) hm1 hm2
            rw [hq.out] at this
            exact this
          by_cases hc : q ≤ r
          · have hm12 : m < 12 := by
              rcases (show m = 12 ∨ m < 12 by omega) with e | e
              · exfalso
                have e1 := HR.out
                have e2 := hq.out
                rw [ystart_succ] at hy4
                have := leapN_01 y
                subst e
                simp [cumD, mdays] at e1 e2
                omega
              · exact e
            go_wp2_with (refine (HM.out _).mono ?_; rintro e w' ⟨rfl, rfl⟩)
            go_round
            case rel => exact ⟨m + 1, by omega, by omega, rfl, by rw [HCS.out]; have := HR.out; have := hq.out; omega, by rw [HCS.out]; have := HR.out; have := hq.out; congr 1; omega⟩
            case measure => simp [intOf]; omega
          · have HD := Lib.hid (date_found (n := n) (y := y) hm1 hm2 (by have := HR.out; omega) (by have := HR.out; have := hq.out; omega))
            go_wp2_with (refine (HM.out _).mono ?_; rintro e w' ⟨rfl, rfl⟩)
            refine bodyPost_ret (v := .agg #[.int .i64 y, .int .i64 m, .int .i64 (r + 1)]) (by simp [results, Try.results39, go_sem]) rfl ⟨ret_date HD.out.1.symm HD.out.2.1.symm (by rw [HD.out.2.2, HR.out]), ?_⟩
            exact (by repeat (first | (with_reducible assumption) | (with_reducible exact Below.refl _ _) | (with_reducible refine Below.setCell ?_ (by first | omega | (simp <;> omega)) _) | refine below_drewN ?_ _ | refine Below.drew ?_ | refine Below.alloc ?_ (by first | omega | (simp <;> omega)) _))

set_option maxRecDepth 100000 in
set_option maxHeartbeats 8000000 in
theorem cronClockD_any (loc nano : Int) (h0 : -62135683200 ≤ loc) (h1 : loc ≤ 260000000000) (w : World) :
    Calls Try.prog 37 #[.int .i64 loc, .int .i64 nano] w fun e w' => e = .returned (.agg (civV loc nano)) ∧ Below w.heap.size w w' := by
  obtain ⟨n, hn⟩ : ∃ n, Hid (n = loc / 86400) := ⟨_, rfl⟩
  have nb : -719163 ≤ n ∧ n < 3010000 := by have := hn.out; omega
  obtain ⟨x, hx⟩ : ∃ x, Hid (loc - 86400 * n = x) := ⟨_, rfl⟩
  have xb : 0 ≤ x ∧ x < 86400 := by have := hn.out; have := hx.out; omega
  obtain ⟨Y, M, D, HYMD⟩ : ∃ Y M D, Hid (yearOf n = Y ∧ monthOf n = M ∧ dayOf n = D) := ⟨_, _, _, Lib.hid ⟨rfl, rfl, rfl⟩⟩
  obtain ⟨wd, hwd⟩ : ∃ wd, Hid ((n + 4) % 7 = wd) := ⟨_, rfl⟩
  have HWD : Hid (∀ W, Calls Try.prog 58 #[.int .i64 n] W fun e w' => e = .returned (.int .i64 wd) ∧ W = w') := Lib.hid (fun W => by
    have h := weekdayS_any n (by omega) (by omega) W
    rw [hwd.out] at h
    exact h)
  go_enter Try.func37, Try.ntmps37
  go_wp2_with fail
  refine (floorDiv_any loc 86400 (by omega) (by omega) (by omega) (by omega) _).mono ?_
  rintro e w1 ⟨rfl, rfl⟩
  rw [← hn.out]
  go_wp2_with fail
  rw [hx.out]
  refine (dateOfD_any n (by omega) (by omega) _).mono ?_
  rintro e w2 ⟨rfl, hb⟩
  rw [HYMD.out.1, HYMD.out.2.1, HYMD.out.2.2]
  have HA := Lib.hid (((rws0 w).alloc _ rfl #[.int .i64 0, .int .i64 0, .int .i64 0, .int .i64 0, .int .i64 0, .int .i64 0, .int .i64 0, .int .i64 0] 35).below hb)
  clear hb
  go_wp2_with fail
  have HB := Lib.hid (HA.out.alloc w2.heap.size rfl #[.int .i64 Y, .int .i64 M, .int .i64 D] 74)
  refine wp_named ?_
  intro W2 hW2
  rw [hW2] at HB
  have hp7 : w.heap.size < w2.heap.size := HA.out.at0.lt
  clear hW2 HA
  generalize w2.heap.size = p7 at HB hp7 ⊢
  have HD := Lib.hid HB.out.drew
  clear HB
  refine wp_region_held_drew (S := fun w' => Hid (Rws w w' [(p7, 74, #[.int .i64 Y, .int .i64 M, .int .i64 D])])) (by kernel_rfl) (Lib.hid HD.out.swap.tail) (fun hHeld => ?_)
  generalize W2.drew = Wd at HD hHeld ⊢
  (try simp only [Act.put, List.getElem_toArray, List.getElem_cons_zero, List.getElem_cons_succ, List.setIfInBounds_toArray, List.set_cons_zero, List.set_cons_succ])
  refine wpAnyH_take (i := 0) (v := ?_) rfl (by kernel_rfl) (by kernel_rfl) (by kernel_rfl) (fun _ _ _ h => h) (Or.inl ⟨by rfl, ?_⟩) (by assumption) ?_
  rotate_left
  · (intro wx hSw; go_simp; (try with_reducible rfl))
  (try simp only [Act.put, List.getElem_toArray, List.getElem_cons_zero, List.getElem_cons_succ, List.setIfInBounds_toArray, List.set_cons_zero, List.set_cons_succ])
  refine wpAnyH_take (i := 1) (v := ?_) rfl (by kernel_rfl) (by kernel_rfl) (by kernel_rfl) (fun _ _ _ h => h) (Or.inl ⟨by rfl, ?_⟩) (by assumption) ?_
  rotate_left
  · (intro wx hSw; have k0 : wx.cell? ⟨p7, 0, none⟩ = some (.int .i64 Y) := hSw.out.at0.cell 0; have k1 : wx.cell? ⟨p7, 1, none⟩ = some (.int .i64 M) := hSw.out.at0.cell 1; have k2 : wx.cell? ⟨p7, 2, none⟩ = some (.int .i64 D) := hSw.out.at0.cell 2; go_simp; (try with_reducible rfl))
  (try simp only [Act.put, List.getElem_toArray, List.getElem_cons_zero, List.getElem_cons_succ, List.setIfInBounds_toArray, List.set_cons_zero, List.set_cons_succ])
  refine wpAnyH_take (i := 2) (v := ?_) rfl (by kernel_rfl) (by kernel_rfl) (by kernel_rfl) (fun _ _ _ h => h) (Or.inl ⟨by rfl, ?_⟩) (by assumption) ?_
  rotate_left
  · (intro wx hSw; go_simp; (try with_reducible rfl))
  (try simp only [Act.put, List.getElem_toArray, List.getElem_cons_zero, List.getElem_cons_succ, List.setIfInBounds_toArray, List.set_cons_zero, List.set_cons_succ])
  refine wpAnyH_take (i := 3) (v := ?_) rfl (by kernel_rfl) (by kernel_rfl) (by kernel_rfl) (fun _ _ _ h => h) (Or.inl ⟨by rfl, ?_⟩) (by assumption) ?_
  rotate_left
  · (intro wx hSw; have k0 : wx.cell? ⟨p7, 0, none⟩ = some (.int .i64 Y) := hSw.out.at0.cell 0; have k1 : wx.cell? ⟨p7, 1, none⟩ = some (.int .i64 M) := hSw.out.at0.cell 1; have k2 : wx.cell? ⟨p7, 2, none⟩ = some (.int .i64 D) := hSw.out.at0.cell 2; go_simp; (try with_reducible rfl))
  (try simp only [Act.put, List.getElem_toArray, List.getElem_cons_zero, List.getElem_cons_succ, List.setIfInBounds_toArray, List.set_cons_zero, List.set_cons_succ])
  refine wpAnyH_take (i := 4) (v := ?_) rfl (by kernel_rfl) (by kernel_rfl) (by kernel_rfl) (fun _ _ _ h => h) (Or.inl ⟨by rfl, ?_⟩) (by assumption) ?_
  rotate_left
  · (intro wx hSw; go_simp; (try with_reducible rfl))
  (try simp only [Act.put, List.getElem_toArray, List.getElem_cons_zero, List.getElem_cons_succ, List.setIfInBounds_toArray, List.set_cons_zero, List.set_cons_succ])
  refine wpAnyH_take (i := 5) (v := ?_) rfl (by kernel_rfl) (by kernel_rfl) (by kernel_rfl) (fun _ _ _ h => h) (Or.inl ⟨by rfl, ?_⟩) (by assumption) ?_
  rotate_left
  · (intro wx hSw; have k0 : wx.cell? ⟨p7, 0, none⟩ = some (.int .i64 Y) := hSw.out.at0.cell 0; have k1 : wx.cell? ⟨p7, 1, none⟩ = some (.int .i64 M) := hSw.out.at0.cell 1; have k2 : wx.cell? ⟨p7, 2, none⟩ = some (.int .i64 D) := hSw.out.at0.cell 2; go_simp; (try with_reducible rfl))
  (try simp only [Act.put, List.getElem_toArray, List.getElem_cons_zero, List.getElem_cons_succ, List.setIfInBounds_toArray, List.set_cons_zero, List.set_cons_succ])
  refine wpAnyH_take (i := 6) (v := ?_) rfl (by kernel_rfl) (by kernel_rfl) (by kernel_rfl) (fun _ _ _ h => h) (Or.inl ⟨by rfl, ?_⟩) (by assumption) ?_
  rotate_left
  · (intro wx hSw; go_simp; (try with_reducible rfl))
  (try simp only [Act.put, List.getElem_toArray, List.getElem_cons_zero, List.getElem_cons_succ, List.setIfInBounds_toArray, List.set_cons_zero, List.set_cons_succ])
  refine wpAnyH_take (i := 7) (v := ?_) rfl (by kernel_rfl) (by kernel_rfl) (by kernel_rfl) (fun _ _ _ h => h) (Or.inl ⟨by rfl, ?_⟩) (by assumption) ?_
  rotate_left
  · (intro wx hSw; go_simp; (try with_reducible rfl))
  (try simp only [Act.put, List.getElem_toArray, List.getElem_cons_zero, List.getElem_cons_succ, List.setIfInBounds_toArray, List.set_cons_zero, List.set_cons_succ])
  refine wpAnyH_take (i := 8) (v := ?_) rfl (by kernel_rfl) (by kernel_rfl) (by kernel_rfl) (fun _ _ _ h => h) (Or.inl ⟨by rfl, ?_⟩) (by assumption) ?_
  rotate_left
  · (intro wx hSw; go_simp; (try with_reducible rfl))
  (try simp only [Act.put, List.getElem_toArray, List.getElem_cons_zero, List.getElem_cons_succ, List.setIfInBounds_toArray, List.set_cons_zero, List.set_cons_succ])
  refine wpAnyH_take (i := 9) (v := ?_) rfl (by kernel_rfl) (by kernel_rfl) (by kernel_rfl) (fun _ _ _ h => h) (Or.inl ⟨by rfl, ?_⟩) (by assumption) ?_
  rotate_left
  · (intro wx hSw; go_simp; (try with_reducible rfl))
  (try simp only [Act.put, List.getElem_toArray, List.getElem_cons_zero, List.getElem_cons_succ, List.setIfInBounds_toArray, List.set_cons_zero, List.set_cons_succ])
  refine wpAnyH_take (i := 10) (v := ?_) rfl (by kernel_rfl) (by kernel_rfl) (by kernel_rfl) (fun _ _ _ h => h) (Or.inl ⟨by rfl, ?_⟩) (by assumption) ?_
  rotate_left
  · (intro wx hSw; go_simp; (try with_reducible rfl))
  (try simp only [Act.put, List.getElem_toArray, List.getElem_cons_zero, List.getElem_cons_succ, List.setIfInBounds_toArray, List.set_cons_zero, List.set_cons_succ])
  refine wpAnyH_take (i := 11) (v := ?_) rfl (by kernel_rfl) (by kernel_rfl) (by kernel_rfl) (fun _ _ _ h => h) (Or.inl ⟨by rfl, ?_⟩) (by assumption) ?_
  rotate_left
  · (intro wx hSw; go_simp; (try with_reducible rfl))
  (try simp only [Act.put, List.getElem_toArray, List.getElem_cons_zero, List.getElem_cons_succ, List.setIfInBounds_toArray, List.set_cons_zero, List.set_cons_succ])
  refine wpAnyH_take (i := 12) (v := ?_) rfl (by kernel_rfl) (by kernel_rfl) (by kernel_rfl) (fun _ _ _ h => h) (Or.inl ⟨by rfl, ?_⟩) (by assumption) ?_
  rotate_left
  · (intro wx hSw; go_simp; (try with_reducible rfl))
  (try simp only [Act.put, List.getElem_toArray, List.getElem_cons_zero, List.getElem_cons_succ, List.setIfInBounds_toArray, List.set_cons_zero, List.set_cons_succ])
  refine wpAnyH_take (i := 13) (v := ?_) rfl (by kernel_rfl) (by kernel_rfl) (by kernel_rfl) (fun _ _ _ h => h) (Or.inl ⟨by rfl, ?_⟩) (by assumption) ?_
  rotate_left
  · (intro wx hSw; go_simp; (try with_reducible rfl))
  (try simp only [Act.put, List.getElem_toArray, List.getElem_cons_zero, List.getElem_cons_succ, List.setIfInBounds_toArray, List.set_cons_zero, List.set_cons_succ])
  refine wpAnyH_take (i := 14) (v := ?_) rfl (by kernel_rfl) (by kernel_rfl) (by kernel_rfl) (fun _ _ _ h => h) (Or.inl ⟨by rfl, ?_⟩) (by assumption) ?_
  rotate_left
  · (intro wx hSw; go_simp; (try with_reducible rfl))
  (try simp only [Act.put, List.getElem_toArray, List.getElem_cons_zero, List.getElem_cons_succ, List.setIfInBounds_toArray, List.set_cons_zero, List.set_cons_succ])
  refine wpAnyH_ready (rs := [15]) (by kernel_rfl) (by simp) ?_
  refine (AllReadyH.cons rfl (fun K hK => ?_) AllReadyH.nil)
  go_simp
  go_at_call 58
  refine (HWD.out _).mono ?_
  rintro e w5 ⟨rfl, rfl⟩
  have HN := Lib.hid hHeld.out
  refine hK.out _ _ HN (fun hH2 => ?_)
  clear hK K hHeld 
  have hHeld := hH2
  clear hH2
  (try simp only [Act.put, List.getElem_toArray, List.getElem_cons_zero, List.getElem_cons_succ, List.setIfInBounds_toArray, List.set_cons_zero, List.set_cons_succ])
  refine wpAnyH_take (i := 16) (v := ?_) rfl (by kernel_rfl) (by kernel_rfl) (by kernel_rfl) (fun _ _ _ h => h) (Or.inl ⟨by rfl, ?_⟩) (by assumption) ?_
  rotate_left
  · (intro wx hSw; go_simp; (try with_reducible rfl))
  (try simp only [Act.put, List.getElem_toArray, List.getElem_cons_zero, List.getElem_cons_succ, List.setIfInBounds_toArray, List.set_cons_zero, List.set_cons_succ])
  obtain ⟨ho, hho⟩ : ∃ ho, Hid (IntKind.wrap .i64 (x.tdiv 3600) = ho) := ⟨_, rfl⟩
  obtain ⟨mi, hmi⟩ : ∃ mi, Hid ((IntKind.wrap .i64 (x.tdiv 60)).tmod 60 = mi) := ⟨_, rfl⟩
  obtain ⟨se, hse⟩ : ∃ se, Hid (x.tmod 60 = se) := ⟨_, rfl⟩
  rw [hmi.out, hho.out, hse.out]
  refine wpAnyH_ready (rs := [17]) (by kernel_rfl) (by simp) ?_
  refine (AllReadyH.cons rfl (fun K hK => ?_) AllReadyH.nil)
  rw [if_pos (by rfl)]
  have hT : Wd.there w.heap.size 0 8 := HD.out.at1.thereAll
  have HE := Lib.hid (HD.out.swap.put8 (by intro r hr; simp at hr; subst hr; simp; omega) (Nat.le_refl _) (.int .i64 Y) (.int .i64 M) (.int .i64 D) (.int .i64 ho) (.int .i64 mi) (.int .i64 se) (.int .i64 nano) (.int .i64 wd))
  refine wp_store_mid 35 (.tmp 4) (.tmp 32) rfl w.heap.size 0 #[.int .i64 Y, .int .i64 M, .int .i64 D, .int .i64 ho, .int .i64 mi, .int .i64 se, .int .i64 nano, .int .i64 wd] (by simp [Act.eval]) (by simp [Act.eval]) hT infoCiv (civ_one _ _ _ _ _ _ _ _) ?_
  have HN := Lib.hid HE.out.tail
  refine hK.out _ _ HN (fun _ => ?_)
  clear hK K hHeld HN hT HD
  generalize Wd.setCells w.heap.size 0 _ = W3 at HE ⊢
  (try simp only [Act.put, List.getElem_toArray, List.getElem_cons_zero, List.getElem_cons_succ, List.setIfInBounds_toArray, List.set_cons_zero, List.set_cons_succ])
  refine wpAnyH_done (by kernel_rfl) ?_ _
  have z0 : W3.cell? ⟨w.heap.size, 0, none⟩ = some (.int .i64 Y) := HE.out.at0.cell 0
  have g0 := HE.out.at0.free 0
  have z1 : W3.cell? ⟨w.heap.size, 1, none⟩ = some (.int .i64 M) := HE.out.at0.cell 1
  have g1 := HE.out.at0.free 1
  have z2 : W3.cell? ⟨w.heap.size, 2, none⟩ = some (.int .i64 D) := HE.out.at0.cell 2
  have g2 := HE.out.at0.free 2
  have z3 : W3.cell? ⟨w.heap.size, 3, none⟩ = some (.int .i64 ho) := HE.out.at0.cell 3
  have g3 := HE.out.at0.free 3
  have z4 : W3.cell? ⟨w.heap.size, 4, none⟩ = some (.int .i64 mi) := HE.out.at0.cell 4
  have g4 := HE.out.at0.free 4
  have z5 : W3.cell? ⟨w.heap.size, 5, none⟩ = some (.int .i64 se) := HE.out.at0.cell 5
  have g5 := HE.out.at0.free 5
  have z6 : W3.cell? ⟨w.heap.size, 6, none⟩ = some (.int .i64 nano) := HE.out.at0.cell 6
  have g6 := HE.out.at0.free 6
  have z7 : W3.cell? ⟨w.heap.size, 7, none⟩ = some (.int .i64 wd) := HE.out.at0.cell 7
  have g7 := HE.out.at0.free 7
  have hB := HE.out.2
  clear HE
  go_wp2_with fail
  have hciv : civV loc nano = #[.int .i64 Y, .int .i64 M, .int .i64 D, .int .i64 ho, .int .i64 mi, .int .i64 se, .int .i64 nano, .int .i64 wd] := by
    unfold civV
    have e0 := hn.out
    have e1 := hx.out
    have w1 : ho = loc % 86400 / 3600 := by
      rw [← hho.out, IntWalk.i64_quo x 3600 (by omega)]; omega
    have w2 : mi = loc % 3600 / 60 := by
      rw [← hmi.out, IntWalk.i64_quo x 60 (by omega), Int.tmod_eq_emod_of_nonneg (by omega)]
      have a1 : loc % 3600 = x % 3600 := by omega
      have a2 : x / 60 % 60 = x % 3600 / 60 := by omega
      omega
    have w3 : se = loc % 60 := by
      rw [← hse.out, Int.tmod_eq_emod_of_nonneg (by omega)]; omega
    rw [← e0, HYMD.out.1, HYMD.out.2.1, HYMD.out.2.2, hwd.out, w1, w2, w3]
  rw [hciv]
  refine bodyPost_ret (v := .agg #[.int .i64 Y, .int .i64 M, .int .i64 D, .int .i64 ho, .int .i64 mi, .int .i64 se, .int .i64 nano, .int .i64 wd]) (by simp [results, Try.results37, go_sem, z0, g0, z1, g1, z2, g2, z3, g3, z4, g4, z5, g5, z6, g6, z7, g7]) rfl ⟨rfl, hB⟩

end Go.Proofs.Ytpgclepiagfgfaa
