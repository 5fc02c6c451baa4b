/- spec.CronTomorrow, spec.cronTime. -/
import Derived.Test.YtpgclepiagfgfaaTsF
namespace Go.Proofs.Ytpgclepiagfgfaa
open Go.RowKit
set_option linter.unusedVariables false
set_option linter.unusedSimpArgs false

theorem tomorrow_plain (n : Int) : (dayOf n < mdays (yearOf n) (monthOf n) → yearOf (n + 1) = yearOf n ∧ monthOf (n + 1) = monthOf n ∧ dayOf (n + 1) = dayOf n + 1)
    ∧ (¬ dayOf n < mdays (yearOf n) (monthOf n) → (monthOf n < 12 → yearOf (n + 1) = yearOf n ∧ monthOf (n + 1) = monthOf n + 1 ∧ dayOf (n + 1) = 1) ∧ (¬ monthOf n < 12 → yearOf (n + 1) = yearOf n + 1 ∧ monthOf (n + 1) = 1 ∧ dayOf (n + 1) = 1)) := by
  obtain ⟨h1, h2, h3, h4, h5⟩ := isDate_of n
  constructor
  · intro hd
    exact date_is ⟨h1, h2, by omega, by omega, by unfold dayNo at *; omega⟩
  · intro hd
    have e := dayN_mid n
    have hm := mon1_date (mid n)
    have hx : mon1 (mid n) = n + 1 := by
      rw [mon1_eq]; unfold mon0 yr; rw [e]; unfold dayNo at *; omega
    rw [hx] at hm
    have k := date_is hm
    unfold nextY nextM yr at k
    rw [e] at k
    constructor
    · intro hl; rw [if_neg (by omega), if_neg (by omega)] at k; exact k
    · intro hl; rw [if_pos (by omega), if_pos (by omega)] at k; exact k

set_option maxRecDepth 100000 in
set_option maxHeartbeats 4000000 in
theorem tomorrow_any (n y m d : Int) (hY : Hid (yearOf n = y ∧ monthOf n = m ∧ dayOf n = d)) (hy0 : 0 ≤ y) (hy1 : y ≤ 50000) (hm1 : 1 ≤ m) (hm2 : m ≤ 12) (hd1 : 1 ≤ d) (hd2 : d ≤ 31) (w : World) :
    Calls Try.prog 61 #[.agg #[.int .i64 y, .int .i64 m, .int .i64 d]] w fun e w' => e = .returned (.agg #[.int .i64 (yearOf (n + 1)), .int .i64 (monthOf (n + 1)), .int .i64 (dayOf (n + 1))]) ∧ Below w.heap.size w w' := by
  obtain ⟨q, hq⟩ : ∃ q, Hid (mdays y m = q) := ⟨_, rfl⟩
  have HM : Hid (∀ W, Calls Try.prog 60 #[.int .i64 y, .int .i64 m] W fun e w' => e = .returned (.int .i64 q) ∧ W = w') := by
    have := monthDays_any y m (by omega) (by omega) hm1 hm2
    rw [hq.out] at this
    exact this
  have HP := tomorrow_plain n
  rw [hY.out.1, hY.out.2.1, hY.out.2.2, hq.out] at HP
  have HP := Lib.hid HP
  go_enter Try.func61, Try.ntmps61
  go_wp2_with fail
  refine wp_named ?_
  intro W2 hW2
  have HS : Hid (RowAt W2 w.heap.size 74 #[.int .i64 y, .int .i64 m, .int .i64 d] ∧ RowAt W2 (w.heap.size + 1) 74 #[.int .i64 0, .int .i64 0, .int .i64 0]) := by
    rw [← hW2]
    exact ⟨(rowAt_last w _ _ _ rfl).alloc _, rowAt_last _ _ _ _ (by simp)⟩
  have bk : Below w.heap.size w W2 := by rw [← hW2]; exact (by repeat (first | (with_reducible assumption) | (with_reducible exact Below.refl _ _) | (with_reducible refine Below.setCell ?_ (by first | omega | (simp <;> omega)) _) | refine below_drewN ?_ _ | refine Below.drew ?_ | refine Below.alloc ?_ (by first | omega | (simp <;> omega)) _))
  clear hW2
  refine wp_region_held_drew (S := fun w' => Hid (RowAt w' w.heap.size 74 #[.int .i64 y, .int .i64 m, .int .i64 d] ∧ RowAt w' (w.heap.size + 1) 74 #[.int .i64 0, .int .i64 0, .int .i64 0])) (by kernel_rfl) (Lib.hid ⟨HS.out.1, HS.out.2⟩) (fun hHeld => ?_)
  (try simp only [Act.put, List.getElem_toArray, List.getElem_cons_zero, List.getElem_cons_succ, List.setIfInBounds_toArray, List.set_cons_zero, List.set_cons_succ])
  refine wpAnyH_take (i := 0) (v := ?_) rfl (by kernel_rfl) (by kernel_rfl) (by kernel_rfl) (fun _ _ _ h => h) (Or.inl ⟨by rfl, ?_⟩) (by assumption) ?_
  rotate_left
  · (intro wx hSw; go_simp; (try with_reducible rfl))
  (try simp only [Act.put, List.getElem_toArray, List.getElem_cons_zero, List.getElem_cons_succ, List.setIfInBounds_toArray, List.set_cons_zero, List.set_cons_succ])
  refine wpAnyH_take (i := 1) (v := ?_) rfl (by kernel_rfl) (by kernel_rfl) (by kernel_rfl) (fun _ _ _ h => h) (Or.inl ⟨by rfl, ?_⟩) (by assumption) ?_
  rotate_left
  · (intro wx hSw; have c2 : wx.cell? ⟨w.heap.size, 2, none⟩ = some (.int .i64 d) := hSw.out.1.cell 2; go_simp; (try with_reducible rfl))
  (try simp only [Act.put, List.getElem_toArray, List.getElem_cons_zero, List.getElem_cons_succ, List.setIfInBounds_toArray, List.set_cons_zero, List.set_cons_succ])
  refine wpAnyH_take (i := 2) (v := ?_) rfl (by kernel_rfl) (by kernel_rfl) (by kernel_rfl) (fun _ _ _ h => h) (Or.inl ⟨by rfl, ?_⟩) (by assumption) ?_
  rotate_left
  · (intro wx hSw; go_simp; (try with_reducible rfl))
  (try simp only [Act.put, List.getElem_toArray, List.getElem_cons_zero, List.getElem_cons_succ, List.setIfInBounds_toArray, List.set_cons_zero, List.set_cons_succ])
  refine wpAnyH_take (i := 3) (v := ?_) rfl (by kernel_rfl) (by kernel_rfl) (by kernel_rfl) (fun _ _ _ h => h) (Or.inl ⟨by rfl, ?_⟩) (by assumption) ?_
  rotate_left
  · (intro wx hSw; have c0 : wx.cell? ⟨w.heap.size, 0, none⟩ = some (.int .i64 y) := hSw.out.1.cell 0; go_simp; (try with_reducible rfl))
  (try simp only [Act.put, List.getElem_toArray, List.getElem_cons_zero, List.getElem_cons_succ, List.setIfInBounds_toArray, List.set_cons_zero, List.set_cons_succ])
  refine wpAnyH_take (i := 4) (v := ?_) rfl (by kernel_rfl) (by kernel_rfl) (by kernel_rfl) (fun _ _ _ h => h) (Or.inl ⟨by rfl, ?_⟩) (by assumption) ?_
  rotate_left
  · (intro wx hSw; go_simp; (try with_reducible rfl))
  (try simp only [Act.put, List.getElem_toArray, List.getElem_cons_zero, List.getElem_cons_succ, List.setIfInBounds_toArray, List.set_cons_zero, List.set_cons_succ])
  refine wpAnyH_take (i := 5) (v := ?_) rfl (by kernel_rfl) (by kernel_rfl) (by kernel_rfl) (fun _ _ _ h => h) (Or.inl ⟨by rfl, ?_⟩) (by assumption) ?_
  rotate_left
  · (intro wx hSw; have c1 : wx.cell? ⟨w.heap.size, 1, none⟩ = some (.int .i64 m) := hSw.out.1.cell 1; go_simp; (try with_reducible rfl))
  (try simp only [Act.put, List.getElem_toArray, List.getElem_cons_zero, List.getElem_cons_succ, List.setIfInBounds_toArray, List.set_cons_zero, List.set_cons_succ])
  refine wpAnyH_ready (rs := [6]) (by kernel_rfl) (by simp) ?_
  refine (AllReadyH.cons rfl (fun K hK => ?_) AllReadyH.nil)
  go_simp
  go_at_call 60
  refine (HM.out _).mono ?_
  rintro e w1 ⟨rfl, rfl⟩
  have HN := Lib.hid hHeld.out
  refine hK.out _ _ HN (fun hH2 => ?_)
  clear hK K hHeld 
  have hHeld := hH2
  clear hH2
  (try simp only [Act.put, List.getElem_toArray, List.getElem_cons_zero, List.getElem_cons_succ, List.setIfInBounds_toArray, List.set_cons_zero, List.set_cons_succ])
  refine wpAnyH_take (i := 7) (v := ?_) rfl (by kernel_rfl) (by kernel_rfl) (by kernel_rfl) (fun _ _ _ h => h) (Or.inl ⟨by rfl, ?_⟩) (by assumption) ?_
  rotate_left
  · (intro wx hSw; go_simp; (try with_reducible rfl))
  (try simp only [Act.put, List.getElem_toArray, List.getElem_cons_zero, List.getElem_cons_succ, List.setIfInBounds_toArray, List.set_cons_zero, List.set_cons_succ])
  refine wpAnyH_done (by kernel_rfl) ?_ _
  have c0 : W2.cell? ⟨w.heap.size, 0, none⟩ = some (.int .i64 y) := HS.out.1.cell 0
  have c1 : W2.cell? ⟨w.heap.size, 1, none⟩ = some (.int .i64 m) := HS.out.1.cell 1
  have c2 : W2.cell? ⟨w.heap.size, 2, none⟩ = some (.int .i64 d) := HS.out.1.cell 2
  have k0 : W2.cell? ⟨w.heap.size + 1, 0, none⟩ = some (.int .i64 0) := HS.out.2.cell 0
  have k1 : W2.cell? ⟨w.heap.size + 1, 1, none⟩ = some (.int .i64 0) := HS.out.2.cell 1
  have k2 : W2.cell? ⟨w.heap.size + 1, 2, none⟩ = some (.int .i64 0) := HS.out.2.cell 2
  have f0 := HS.out.2.free 0
  have f1 := HS.out.2.free 1
  have f2 := HS.out.2.free 2
  by_cases hd : d < q
  · have HF := Lib.hid (HP.out.1 hd)
    go_wp2_with fail
    refine bodyPost_ret (v := .agg #[.int .i64 y, .int .i64 m, .int .i64 (d + 1)]) (by simp [results, Try.results61, go_sem, k0, k1, k2, f0, f1, f2]) rfl ⟨ret_date HF.out.1.symm HF.out.2.1.symm HF.out.2.2.symm, ?_⟩
    exact below_set3 bk.drew (by omega) _ _ _
  · have hd' : q ≤ d := by omega
    by_cases hm : m < 12
    · have HF := Lib.hid ((HP.out.2 (by omega)).1 (by omega))
      clear hd
      go_wp2_with fail
      refine bodyPost_ret (v := .agg #[.int .i64 y, .int .i64 (m + 1), .int .i64 1]) (by simp [results, Try.results61, go_sem, k0, k1, k2, f0, f1, f2]) rfl ⟨ret_date HF.out.1.symm HF.out.2.1.symm HF.out.2.2.symm, ?_⟩
      exact below_set3 bk.drew (by omega) _ _ _
    · have HF := Lib.hid ((HP.out.2 (by omega)).2 (by omega))
      have hm' : 12 ≤ m := by omega
      clear hd hm
      go_wp2_with fail
      refine bodyPost_ret (v := .agg #[.int .i64 (y + 1), .int .i64 1, .int .i64 1]) (by simp [results, Try.results61, go_sem, k0, k1, k2, f0, f1, f2]) rfl ⟨ret_date HF.out.1.symm HF.out.2.1.symm HF.out.2.2.symm, ?_⟩
      exact below_set3 bk.drew (by omega) _ _ _

/-- A second of the day is in the sets. -/
def tOK (s : Sched) (x : Nat) : Bool := s.ho.testBit (x / 3600) && s.mi.testBit (x % 3600 / 60) && s.se.testBit (x % 60)
def NoT (s : Sched) (a b : Nat) : Prop := ∀ x, a ≤ x → x < b → tOK s x = false
def TimeIs (s : Sched) (a : Nat) (r : Int) : Prop := (r = -1 ∧ NoT s a 86400) ∨ ∃ x : Nat, r = x ∧ a ≤ x ∧ x < 86400 ∧ tOK s x = true ∧ NoT s a x
theorem NoT.ho {s : Sched} {a k : Nat} (h : NoT s a (3600 * k)) (hk : k ≤ 23) (hb : inK s 2 k = false) : NoT s a (3600 * (k + 1)) := fun x h1 h2 => by
  by_cases hx : x < 3600 * k
  · exact h x h1 hx
  · rw [inK_ho s k hk] at hb
    unfold tOK; rw [show x / 3600 = k by omega, hb]; rfl
theorem NoT.mi {s : Sched} {a k j : Nat} (h : NoT s a (3600 * k + 60 * j)) (hj : j ≤ 59) (hb : inK s 1 j = false) : NoT s a (3600 * k + 60 * (j + 1)) := fun x h1 h2 => by
  by_cases hx : x < 3600 * k + 60 * j
  · exact h x h1 hx
  · rw [inK_mi s j hj] at hb
    unfold tOK; rw [show x % 3600 / 60 = j by omega, hb]; simp
theorem NoT.early {s : Sched} {a b : Nat} (h : b ≤ a) : NoT s a b := fun x h1 h2 => by omega
theorem NoT.se {s : Sched} {a k j i : Nat} (h : NoT s a (3600 * k + 60 * j + i)) (hi : i ≤ 59) (hb : inK s 0 i = false) : NoT s a (3600 * k + 60 * j + (i + 1)) := fun x h1 h2 => by
  by_cases hx : x < 3600 * k + 60 * j + i
  · exact h x h1 hx
  · rw [inK_se s i hi] at hb
    unfold tOK; rw [show x % 60 = i by omega, hb]; simp
theorem NoT.eq {s : Sched} {a b c : Nat} (h : NoT s a b) (e : b = c) : NoT s a c := e ▸ h
theorem time_found {s : Sched} {a k j i : Nat} (h : NoT s a (3600 * k + 60 * j + i)) (ha : a ≤ 3600 * k + 60 * j + i) (hk : k ≤ 23) (hj : j ≤ 59) (hi : i ≤ 59) (bk : inK s 2 k = true) (bj : inK s 1 j = true) (bi : inK s 0 i = true) : TimeIs s a (3600 * (k : Int) + 60 * (j : Int) + (i : Int)) := by
  refine .inr ⟨3600 * k + 60 * j + i, by omega, ha, by omega, ?_, h⟩
  rw [inK_ho s k hk] at bk
  rw [inK_mi s j hj] at bj
  rw [inK_se s i hi] at bi
  unfold tOK
  rw [show (3600 * k + 60 * j + i) / 3600 = k by omega, show (3600 * k + 60 * j + i) % 3600 / 60 = j by omega, show (3600 * k + 60 * j + i) % 60 = i by omega, bk, bj, bi]; rfl

set_option maxRecDepth 100000 in
set_option maxHeartbeats 4000000 in
theorem cronTime_any (A : Array Value) (s : Sched) (hA : Hid (A = (fieldsL s).toArray)) (a : Nat) (ha : a < 86400) (w : World) :
    Calls Try.prog 63 #[.agg A, .int .i64 a] w fun e w' => ∃ r : Int, Hid (TimeIs s a r) ∧ e = .returned (.int .i64 r) ∧ Below w.heap.size w w' := by
  have HR := Lib.hid (box_range w A 46 _ hA.out)
  have bk : Below w.heap.size w (w.alloc (.cells A 46)) := (by repeat (first | (with_reducible assumption) | (with_reducible exact Below.refl _ _) | (with_reducible refine Below.setCell ?_ (by first | omega | (simp <;> omega)) _) | refine below_drewN ?_ _ | refine Below.drew ?_ | refine Below.alloc ?_ (by first | omega | (simp <;> omega)) _))
  obtain ⟨a0, ha0⟩ : ∃ a0, a0 = a / 3600 := ⟨_, rfl⟩
  have hf : Hid ((a : Int) / 3600 = (a0 : Int)) := Lib.hid (by omega)

  have hae : 3600 * a0 ≤ a := by omega
  have ha23 : a0 ≤ 23 := by omega
  go_enter Try.func63, Try.ntmps63
  go_wp2_with fail
  refine wp_named ?_
  intro W2 hW2
  rw [hW2] at HR bk
  clear hW2
  go_wp2_with fail
  go_loop [5] (fun h => ∃ k : Nat, k ≤ 24 ∧ Hid (NoT s a (3600 * k)) ∧ h = .int .i64 k) (fun h => (24 - intOf h).toNat)
  case atStart => exact ⟨a0, by omega, NoT.early (by omega), by rw [hf.out]⟩
  case round =>
    obtain ⟨k, hk24, hk, rfl⟩ := hrel
    by_cases hlast : k = 24
    · subst hlast
      go_wp2_with fail
      go_ret
      exact ⟨-1, Lib.hid (.inl ⟨rfl, NoT.eq hk.out (by omega)⟩), rfl, bk⟩
    have hk23 : k ≤ 23 := by omega
    clear hlast
    have hkl : ((k:Int) < 24) = True := by simp only [eq_iff_iff, iff_true]; omega
    have Bk : ((k:Int) < 63) = True := by simp only [eq_iff_iff, iff_true]; omega

    obtain ⟨b2, hb2⟩ : ∃ b2, Hid (inK s 2 k = b2) := ⟨_, rfl⟩
    have c2 : W2.cell? ⟨w.heap.size, 129 + k, none⟩ = some (.bool b2) := (inK_cell HR.out 2 (by decide) k (by omega)).trans (by rw [hb2.out])
    cases b2 with
    | false =>
      go_wp2_with fail
      go_round
      case rel => exact ⟨k + 1, by omega, Lib.hid (NoT.ho hk.out hk23 hb2.out), by push_cast; rfl⟩
      case measure => simp [intOf]; omega
    | true =>
      go_wp2_with fail
      clear c2
      go_loop [21] (fun h => ∃ j : Nat, j ≤ 60 ∧ Hid (NoT s a (3600 * k + 60 * j)) ∧ h = .int .i64 j) (fun h => (60 - intOf h).toNat)
      case atStart => exact ⟨0, by omega, Lib.hid (NoT.eq hk.out (by omega)), rfl⟩
      case round =>
        obtain ⟨j, hj60, hj, rfl⟩ := hrel
        by_cases hlast : j = 60
        · subst hlast
          go_wp2_with fail
          go_round
          case rel => exact ⟨k + 1, by omega, Lib.hid (NoT.eq hj.out (by omega)), by push_cast; rfl⟩
          case measure => simp [intOf]; omega
        have hj59 : j ≤ 59 := by omega
        clear hlast
        have hjl : ((j:Int) < 60) = True := by simp only [eq_iff_iff, iff_true]; omega
        have Bj : ((j:Int) < 63) = True := by simp only [eq_iff_iff, iff_true]; omega

        obtain ⟨b1, hb1⟩ : ∃ b1, Hid (inK s 1 j = b1) := ⟨_, rfl⟩
        have c1 : W2.cell? ⟨w.heap.size, 65 + j, none⟩ = some (.bool b1) := (inK_cell HR.out 1 (by decide) j (by omega)).trans (by rw [hb1.out])
        cases b1 with
        | false =>
          go_wp2_with fail
          go_round
          case rel => exact ⟨j + 1, by omega, Lib.hid (NoT.mi hj.out hj59 hb1.out), by push_cast; rfl⟩
          case measure => simp [intOf]; omega
        | true =>
          by_cases hq : 3600 * k + 60 * j + 59 < a
          · have hq' : 3600 * (k:Int) + 60 * (j:Int) + 59 < (a:Int) := by omega
            go_wp2_with fail
            go_round
            case rel => exact ⟨j + 1, by omega, Lib.hid (NoT.early (by omega)), by push_cast; rfl⟩
            case measure => simp [intOf]; omega
          · have hq' : (3600 * (k:Int) + 60 * (j:Int) + 59 < (a:Int)) = False := by simp only [eq_iff_iff, iff_false]; omega
            by_cases he : (a:Int) ≤ 3600 * (k:Int) + 60 * (j:Int)
            · go_wp2_with fail
              clear c1
              go_loop [8] (fun h => ∃ i : Nat, i ≤ 60 ∧ a ≤ 3600 * k + 60 * j + i ∧ Hid (NoT s a (3600 * k + 60 * j + i)) ∧ h = .int .i64 i) (fun h => (60 - intOf h).toNat)
              case atStart => exact ⟨0, by omega, by omega, Lib.hid (NoT.eq hj.out (by omega)), rfl⟩
              case round =>
                obtain ⟨i, hi60, hai, hi, rfl⟩ := hrel
                by_cases hlast : i = 60
                · subst hlast
                  go_wp2_with fail
                  go_round
                  case rel => exact ⟨j + 1, by omega, Lib.hid (NoT.eq hi.out (by omega)), by push_cast; rfl⟩
                  case measure => simp [intOf]; omega
                have hi59 : i ≤ 59 := by omega
                clear hlast
                have hil : ((i:Int) < 60) = True := by simp only [eq_iff_iff, iff_true]; omega
                have Bi : ((i:Int) < 63) = True := by simp only [eq_iff_iff, iff_true]; omega

                obtain ⟨b0, hb0⟩ : ∃ b0, Hid (inK s 0 i = b0) := ⟨_, rfl⟩
                have c0 : W2.cell? ⟨w.heap.size, 1 + i, none⟩ = some (.bool b0) := (inK_cell HR.out 0 (by decide) i (by omega)).trans (by rw [hb0.out])
                cases b0 with
                | false =>
                  go_wp2_with fail
                  go_round
                  case rel => exact ⟨i + 1, by omega, by omega, Lib.hid (NoT.se hi.out hi59 hb0.out), by push_cast; rfl⟩
                  case measure => simp [intOf]; omega
                | true =>
                  go_wp2_with fail
                  go_ret
                  exact ⟨_, Lib.hid (time_found hi.out hai hk23 hj59 hi59 hb2.out hb1.out hb0.out), rfl, bk⟩
            · go_wp2_with fail
              clear c1
              go_loop [8] (fun h => ∃ i : Nat, i ≤ 60 ∧ a ≤ 3600 * k + 60 * j + i ∧ Hid (NoT s a (3600 * k + 60 * j + i)) ∧ h = .int .i64 i) (fun h => (60 - intOf h).toNat)
              case atStart => exact ⟨a - (3600 * k + 60 * j), by omega, by omega, Lib.hid (NoT.early (by omega)), by congr 1; omega⟩
              case round =>
                obtain ⟨i, hi60, hai, hi, rfl⟩ := hrel
                by_cases hlast : i = 60
                · subst hlast
                  go_wp2_with fail
                  go_round
                  case rel => exact ⟨j + 1, by omega, Lib.hid (NoT.eq hi.out (by omega)), by push_cast; rfl⟩
                  case measure => simp [intOf]; omega
                have hi59 : i ≤ 59 := by omega
                clear hlast
                have hil : ((i:Int) < 60) = True := by simp only [eq_iff_iff, iff_true]; omega
                have Bi : ((i:Int) < 63) = True := by simp only [eq_iff_iff, iff_true]; omega

                obtain ⟨b0, hb0⟩ : ∃ b0, Hid (inK s 0 i = b0) := ⟨_, rfl⟩
                have c0 : W2.cell? ⟨w.heap.size, 1 + i, none⟩ = some (.bool b0) := (inK_cell HR.out 0 (by decide) i (by omega)).trans (by rw [hb0.out])
                cases b0 with
                | false =>
                  go_wp2_with fail
                  go_round
                  case rel => exact ⟨i + 1, by omega, by omega, Lib.hid (NoT.se hi.out hi59 hb0.out), by push_cast; rfl⟩
                  case measure => simp [intOf]; omega
                | true =>
                  go_wp2_with fail
                  go_ret
                  exact ⟨_, Lib.hid (time_found hi.out hai hk23 hj59 hi59 hb2.out hb1.out hb0.out), rfl, bk⟩

end Go.Proofs.Ytpgclepiagfgfaa
