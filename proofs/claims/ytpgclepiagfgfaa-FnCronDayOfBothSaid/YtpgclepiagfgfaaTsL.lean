/- spec.CronLocal on clocks without changes. -/
import Derived.Test.YtpgclepiagfgfaaTsG
import Derived.Test.YtpgclepiagfgfaaTnI
namespace Go.Proofs.Ytpgclepiagfgfaa
open Go.RowKit
set_option linter.unusedVariables false
set_option linter.unusedSimpArgs false

theorem fits_day (s : Sched) (n : Int) (x : Nat) (hx : x < 86400) : fits s (mid n + x) = (s.mo.testBit (monthOf n).toNat && dayB s.dom s.dow (dayOf n).toNat ((n + 4) % 7).toNat && tOK s x) := by
  unfold fits moOK dyOK hoOK miOK seOK tOK
  have e : dayN (mid n + x) = n := by unfold dayN mid; omega
  have e1 : ((mid n + x) % 86400 / 3600).toNat = x / 3600 := by unfold mid; omega
  have e2 : ((mid n + x) % 3600 / 60).toNat = x % 3600 / 60 := by unfold mid; omega
  have e3 : ((mid n + x) % 60).toNat = x % 60 := by unfold mid; omega
  rw [e, e1, e2, e3]
  simp only [Bool.and_assoc]
theorem at_day {n v : Int} (h0 : mid n ≤ v) (h1 : v < mid (n + 1)) : ∃ x : Nat, x < 86400 ∧ v = mid n + x := ⟨(v - mid n).toNat, by unfold mid at *; omega, by omega⟩
theorem never_fits {s : Sched} (h : neverB s = true) (v : Int) : fits s v = false := by
  unfold neverB at h
  simp only [Bool.or_eq_true] at h
  rcases h with (h | h) | h
  · have := (emptyB_iff _).1 h (v % 86400 / 3600).toNat (by omega)
    rw [inK_ho s _ (by omega)] at this
    exact nofit_ho this
  · have := (emptyB_iff _).1 h (v % 3600 / 60).toNat (by omega)
    rw [inK_mi s _ (by omega)] at this
    exact nofit_mi this
  · have := (emptyB_iff _).1 h (v % 60).toNat (by omega)
    rw [inK_se s _ (by omega)] at this
    exact nofit_se this
/-- A day of the search: what lies ahead of second a of day n does not fit. -/
def DayI (s : Sched) (first n : Int) (a : Nat) : Prop := first ≤ mid n + a ∧ NoFit s first (mid n + a)
theorem mid_succ (n : Int) : mid (n + 1) = mid n + 86400 := by unfold mid; omega
theorem DayI.skip {s : Sched} {first n : Int} {a : Nat} (h : DayI s first n a) (ha : a < 86400) (hd : (s.mo.testBit (monthOf n).toNat && dayB s.dom s.dow (dayOf n).toNat ((n + 4) % 7).toNat) = false) : DayI s first (n + 1) 0 := by
  have h1 := h.1
  have e := mid_succ n
  refine ⟨by omega, h.2.app fun v k1 k2 => ?_⟩
  obtain ⟨x, hx, rfl⟩ := at_day (n := n) (v := v) (by omega) (by omega)
  rw [fits_day s n x hx, hd]; rfl
theorem DayI.none {s : Sched} {first n : Int} {a : Nat} (h : DayI s first n a) (ha : a < 86400) (ht : NoT s a 86400) : DayI s first (n + 1) 0 := by
  have h1 := h.1
  have e := mid_succ n
  refine ⟨by omega, h.2.app fun v k1 k2 => ?_⟩
  obtain ⟨x, hx, rfl⟩ := at_day (n := n) (v := v) (by omega) (by omega)
  rw [fits_day s n x hx, ht x (by omega) hx]; simp
theorem yr_mid (n : Int) (x : Nat) (hx : x < 86400) : yr (mid n + x) = yearOf n := by
  unfold yr
  rw [show dayN (mid n + x) = n by unfold dayN mid; omega]
theorem DayI.found {s : Sched} {first lim n : Int} {a x : Nat} (h : DayI s first n a) (hd : (s.mo.testBit (monthOf n).toNat && dayB s.dom s.dow (dayOf n).toNat ((n + 4) % 7).toNat) = true) (hx : x < 86400) (hax : a ≤ x) (ht : tOK s x = true) (hn : NoT s a x) (hy : yearOf n ≤ lim) : NextIs s first lim (mid n + x) := by
  have h1 := h.1
  refine .inl ⟨by omega, by rw [fits_day s n x hx, hd, ht]; rfl, by rw [yr_mid n x hx]; exact hy, h.2.app fun v k1 k2 => ?_⟩
  obtain ⟨z, hz, rfl⟩ := at_day (n := n) (v := v) (by omega) (by have := mid_succ n; omega)
  rw [fits_day s n z hz, hn z (by omega) (by omega)]; simp
theorem DayI.out {s : Sched} {first lim n : Int} {a : Nat} (h : DayI s first n a) (ha : a < 86400) (hy : lim < yearOf n) : NextIs s first lim 0 := by
  refine .inr ⟨rfl, fun v k1 k2 => ?_⟩
  by_cases hv : v < mid n + a
  · exact h.2 v k1 hv
  · have := yr_mono (show mid n + a ≤ v by omega)
    rw [yr_mid n a ha] at this; omega
theorem year_next (n : Int) : yearOf (n + 1) ≤ yearOf n + 1 := by
  have := yr_next (mid n) 86400 (by omega) (by omega)
  have e : mid n + 86400 = mid (n + 1) + ((0 : Nat) : Int) := by rw [mid_succ]; simp
  have e2 : mid n = mid n + ((0 : Nat) : Int) := by simp
  rw [e, yr_mid _ _ (by omega), e2, yr_mid _ _ (by omega)] at this
  exact this
theorem year_lim {n lim : Int} (h : yearOf n ≤ lim) (hl : lim ≤ 10010) : n < 3000000 := by
  have a := (isDate_of n).inYear
  have b := ystart_mono (show yearOf n + 1 ≤ lim + 1 by omega)
  unfold ystart at a b; omega
def LInv (w wr : World) (s : Sched) (first lim n : Int) (a p : Nat) : Prop := wr.rangeAt w.heap.size 0 (fieldsL s) ∧ RowAt wr p 74 (dateA (yearOf n) (monthOf n) (dayOf n)) ∧ Below w.heap.size w wr ∧ DayI s first n a ∧ yearOf n ≤ lim + 1
theorem ans_none : ansX 0 = 0 ∧ ansB 0 = false := ⟨rfl, rfl⟩
theorem ans_at (n : Int) (x : Nat) (h : 0 < mid n + x) : ansX (mid n + x) = 86400 * n + x ∧ ansB (mid n + x) = true := ⟨by unfold ansX; rw [if_neg (by omega)]; unfold mid; omega, decide_eq_true h⟩

theorem q_named {Q : Exit → Act → World → Prop} {e : Exit} {a : Act} {w : World} (h : ∀ W, w = W → Q e a W) : Q e a w := h w rfl
theorem range_lt {w : World} {g : Nat} {l : List Value} (h : w.rangeAt g 0 l) (hl : 0 < l.length) : g < w.heap.size := by
  have := h 0 l[0] (by simp [hl])
  apply Classical.byContradiction
  intro hg
  simp [World.cell?, Array.getElem?_eq_none (show w.heap.size ≤ g by omega)] at this
set_option maxRecDepth 100000 in
set_option maxHeartbeats 8000000 in
theorem local_any (A : Array Value) (s : Sched) (hA : Hid (A = (fieldsL s).toArray)) (fr first lim : Int) (hf : Hid (fr = first - 62135596800)) (hf0 : 1 ≤ first) (hf1 : first ≤ 315537897600) (hl : lim ≤ 10010) (hl1 : 1 ≤ lim) (hyf : Hid (yearOf (dayN first) ≤ lim)) (w : World) :
    Calls Try.prog 42 #[.agg A, .int .i64 fr, .int .i64 4611686018427387904, .int .i64 lim] w fun e w' => ∃ r, Hid (NextIs s first lim r) ∧ e = .returned (.tuple #[.int .i64 (ansX r), .bool (ansB r)]) ∧ Below w.heap.size w w' := by
  have bk : Below w.heap.size w (w.alloc (.cells A 46)) := (by repeat (first | (with_reducible assumption) | (with_reducible exact Below.refl _ _) | (with_reducible refine Below.setCell ?_ (by first | omega | (simp <;> omega)) _) | refine below_drewN ?_ _ | refine Below.drew ?_ | refine Below.alloc ?_ (by first | omega | (simp <;> omega)) _))
  have HR := Lib.hid (box_range w A 46 _ hA.out)
  go_enter Try.func42, Try.ntmps42
  go_wp2_with (first | (refine wpList_load_mid rfl 46 (.tmp 4) rfl w.heap.size 0 (by simp [Act.eval]) (fieldsL s) _ HR.out Try.underlying46 rfl (infoCF.trans (by rw [fieldsL_len])) (stop_here ?_)))
  rw [← hA.out]
  generalize w.alloc (.cells A 46) = W0 at HR bk ⊢
  unfold Stop
  go_wp2_with fail
  refine (never_any A s hA _).mono ?_
  rintro e w1 ⟨rfl, hb⟩
  obtain ⟨nv, hnv⟩ : ∃ nv, Hid (neverB s = nv) := ⟨_, rfl⟩
  rw [hnv.out]
  have HR1 := Lib.hid (rangeAt_below HR.out hb)
  have HGL : Hid (w.heap.size < w1.heap.size) := Lib.hid (by have := rangeAt_below HR.out hb; exact range_lt this (by rw [fieldsL_len]; omega))
  have bk1 := bk.trans (hb.mono bk.size)
  clear hb HR bk
  cases nv with
  | true =>
    go_wp2_with fail
    go_ret2
    exact ⟨0, Lib.hid (.inr ⟨rfl, fun v _ _ => never_fits hnv.out v⟩), by rw [ans_none.1, ans_none.2]; rfl, bk1⟩
  | false =>
    have fb : -62135596800 ≤ fr ∧ fr ≤ 254000000000 := by have := hf.out; omega
    go_wp2_with fail
    refine (floorDiv_any fr 86400 (by omega) (by omega) (by omega) (by omega) _).mono ?_
    rintro e w2 ⟨rfl, rfl⟩
    obtain ⟨n0, hn0⟩ : ∃ n0, n0 = fr / 86400 := ⟨_, rfl⟩
    obtain ⟨a0, ha0⟩ : ∃ a0 : Nat, (a0 : Int) = fr - 86400 * n0 := ⟨(fr - 86400 * n0).toNat, by omega⟩
    have ha1 : a0 < 86400 := by omega
    have nb0 : -719162 ≤ n0 ∧ n0 ≤ 2990000 := by omega
    have hfa := Lib.hid (show first = mid n0 + a0 by have := hf.out; unfold mid; omega)
    rw [← hn0]
    clear hn0
    go_wp2_with fail
    refine (dateOf_any n0 (by omega) (by omega) _).mono ?_
    rintro e w3 ⟨rfl, hb3⟩
    have ha0' := Lib.hid ha0
    have HR3 := Lib.hid (rangeAt_below HR1.out hb3)
    have HGL3 : Hid (w.heap.size < w3.heap.size) := Lib.hid (by have := hb3.size; have := HGL.out; omega)
    have bk3 := bk1.trans (hb3.mono bk1.size)
    clear hb3 HR1 HGL bk1
    obtain ⟨Y', hY'⟩ : ∃ Y', Hid (yearOf n0 = Y') := ⟨_, rfl⟩
    obtain ⟨M', hM'⟩ : ∃ M', Hid (monthOf n0 = M') := ⟨_, rfl⟩
    obtain ⟨D', hD'⟩ : ∃ D', Hid (dayOf n0 = D') := ⟨_, rfl⟩
    rw [hY'.out, hM'.out, hD'.out]
    go_wp2_with fail
    have HL0 : Hid (LInv w (w3.alloc (.cells #[.int .i64 Y', .int .i64 M', .int .i64 D'] 74)) s first lim n0 a0 w3.heap.size) := by
      have hg3 := HGL3.out
      refine Lib.hid ⟨?_, ?_, ?_, ⟨by have := hfa.out; omega, fun v h1 h2 => by have := hfa.out; omega⟩, ?_⟩
      · exact rangeAt_below HR3.out (by repeat (first | (with_reducible assumption) | (with_reducible exact Below.refl _ _) | (with_reducible refine Below.setCell ?_ (by first | omega | (simp <;> omega)) _) | refine below_drewN ?_ _ | refine Below.drew ?_ | refine Below.alloc ?_ (by first | omega | (simp <;> omega)) _))
      · rw [hY'.out, hM'.out, hD'.out]; exact rowAt_last w3 _ _ _ rfl
      · exact (by repeat (first | (with_reducible assumption) | (with_reducible exact Below.refl _ _) | (with_reducible refine Below.setCell ?_ (by first | omega | (simp <;> omega)) _) | refine below_drewN ?_ _ | refine Below.drew ?_ | refine Below.alloc ?_ (by first | omega | (simp <;> omega)) _))
      · have e := yr_mid n0 a0 ha1
        have := hyf.out
        rw [← hfa.out] at e
        unfold yr at e; omega
    refine wp_named ?_
    intro W4 hW4
    rw [hW4] at HL0
    have hp4 : w.heap.size < w3.heap.size := HGL3.out
    generalize w3.heap.size = p4 at HL0 hp4 ⊢
    clear hW4 HR3 HGL3 bk3 hfa ha0
    go_loopw [10, 11, 12] (fun td ta tp wr => ∃ (n : Int) (a p : Nat), td = .int .i64 n ∧ ta = .int .i64 a ∧ tp = .pointer (some ⟨p, 0, none⟩) ∧ a < 86400 ∧ (-719162 ≤ n ∧ n ≤ 3999999) ∧ w.heap.size < p ∧ Hid (LInv w wr s first lim n a p)) (fun td _ _ _ => (4000000 - intOf td).toNat)
    case atStart => exact ⟨n0, a0, p4, rfl, by rw [ha0'.out], rfl, ha1, by omega, hp4, HL0⟩
    case round =>
      obtain ⟨n, a, p, rfl, rfl, rfl, ha, nb, hgp, HI⟩ := hrel
      clear HL0 hp4 nb0 ha1
      obtain ⟨y, m, d, HY, hm1, hm2, hd1, hd2, hy0, hy1⟩ : ∃ (y : Int) (m d : Nat), Hid (yearOf n = y ∧ monthOf n = m ∧ dayOf n = d) ∧ 1 ≤ m ∧ m ≤ 12 ∧ 1 ≤ d ∧ d ≤ 31 ∧ 1 ≤ y ∧ y ≤ 20000 := by
        have h1 := month_bd n
        have h2 := day_bd n
        have h3 := year_bd n (by omega) (by omega)
        exact ⟨_, (monthOf n).toNat, (dayOf n).toNat, Lib.hid ⟨rfl, by omega, by omega⟩, by omega, by omega, by omega, by omega, h3.1, h3.2⟩
      have HL : Hid (wr.rangeAt w.heap.size 0 (fieldsL s) ∧ RowAt wr p 74 #[.int .i64 y, .int .i64 m, .int .i64 d] ∧ Below w.heap.size w wr) := by
        have h := HI.out
        refine Lib.hid ⟨h.1, ?_, h.2.2.1⟩
        have k := h.2.1
        rw [HY.out.1, HY.out.2.1, HY.out.2.2] at k
        exact k
      have HD := Lib.hid HI.out.2.2.2.1
      have HYL : Hid (yearOf n ≤ lim + 1) := Lib.hid HI.out.2.2.2.2
      clear HI
      have c0 : wr.cell? ⟨p, 0, none⟩ = some (.int .i64 y) := HL.out.2.1.cell 0
      by_cases hyl : y ≤ lim
      · have hun : (86400 * n < 4611686018427387904) = True := by simp only [eq_iff_iff, iff_true]; omega
        have n3 : n < 3000000 := year_lim (by rw [HY.out.1]; exact hyl) hl
        obtain ⟨wd, hwd, hwd6⟩ : ∃ wd : Nat, Hid ((n + 4) % 7 = (wd : Int)) ∧ wd ≤ 6 := ⟨((n + 4) % 7).toNat, Lib.hid (by omega), by omega⟩
        have HW : Hid (∀ W, Calls Try.prog 58 #[.int .i64 n] W fun e w' => e = .returned (.int .i64 wd) ∧ W = w') := by
          have := weekdayS_any n (by omega) (by omega)
          rw [hwd.out] at this
          exact this
        have HFD : Hid ((s.mo.testBit (monthOf n).toNat && dayB s.dom s.dow (dayOf n).toNat ((n + 4) % 7).toNat) = (inK s 4 m && dayB s.dom s.dow d wd)) := by
          rw [HY.out.2.1, HY.out.2.2, hwd.out, inK_mo s m hm1 hm2]; rfl
        have Bm : ((m:Int) < 63) = True := by simp only [eq_iff_iff, iff_true]; omega
        obtain ⟨bm, hbm⟩ : ∃ bm, Hid (inK s 4 m = bm) := ⟨_, rfl⟩
        obtain ⟨bd, hbd⟩ : ∃ bd, Hid (dayB s.dom s.dow d wd = bd) := ⟨_, rfl⟩
        go_wp2_with fail
        cases bm with
        | false =>
          refine wp_region_held_drew (S := fun w' => Hid (w'.rangeAt w.heap.size 0 (fieldsL s) ∧ RowAt w' p 74 #[.int .i64 y, .int .i64 m, .int .i64 d] ∧ Below w.heap.size w w')) (by kernel_rfl) (Lib.hid ⟨(World.rangeAt_drew _ _ _ _).2 HL.out.1, HL.out.2.1, HL.out.2.2.drew⟩) (fun hHeld => ?_)
          (try simp only [Act.put, List.getElem_toArray, List.getElem_cons_zero, List.getElem_cons_succ, List.setIfInBounds_toArray, List.set_cons_zero, List.set_cons_succ])
          refine wpAnyH_take (i := 0) (v := ?_) rfl (by kernel_rfl) (by kernel_rfl) (by kernel_rfl) (fun _ _ _ h => h) (Or.inl ⟨by rfl, ?_⟩) (by assumption) ?_
          rotate_left
          · (intro wx hSw; go_simp; (try with_reducible rfl))
          (try simp only [Act.put, List.getElem_toArray, List.getElem_cons_zero, List.getElem_cons_succ, List.setIfInBounds_toArray, List.set_cons_zero, List.set_cons_succ])
          refine wpAnyH_take (i := 1) (v := ?_) rfl (by kernel_rfl) (by kernel_rfl) (by kernel_rfl) (fun _ _ _ h => h) (Or.inl ⟨by rfl, ?_⟩) (by assumption) ?_
          rotate_left
          · (intro wx hSw; have c1 : wx.cell? ⟨p, 1, none⟩ = some (.int .i64 m) := hSw.out.2.1.cell 1; go_simp; (try with_reducible rfl))
          (try simp only [Act.put, List.getElem_toArray, List.getElem_cons_zero, List.getElem_cons_succ, List.setIfInBounds_toArray, List.set_cons_zero, List.set_cons_succ])
          refine wpAnyH_take (i := 2) (v := ?_) rfl (by kernel_rfl) (by kernel_rfl) (by kernel_rfl) (fun _ _ _ h => h) (Or.inl ⟨by rfl, ?_⟩) (by assumption) ?_
          rotate_left
          · (intro wx hSw; go_simp; (try with_reducible rfl))
          (try simp only [Act.put, List.getElem_toArray, List.getElem_cons_zero, List.getElem_cons_succ, List.setIfInBounds_toArray, List.set_cons_zero, List.set_cons_succ])
          refine wpAnyH_take (i := 3) (v := ?_) rfl (by kernel_rfl) (by kernel_rfl) (by kernel_rfl) (fun _ _ _ h => h) (Or.inl ⟨by rfl, ?_⟩) (by assumption) ?_
          rotate_left
          · (intro wx hSw; go_simp; (try with_reducible rfl))
          (try simp only [Act.put, List.getElem_toArray, List.getElem_cons_zero, List.getElem_cons_succ, List.setIfInBounds_toArray, List.set_cons_zero, List.set_cons_succ])
          refine wpAnyH_take (i := 4) (v := ?_) rfl (by kernel_rfl) (by kernel_rfl) (by kernel_rfl) (fun _ _ _ h => h) (Or.inl ⟨by rfl, ?_⟩) (by assumption) ?_
          rotate_left
          · (intro wx hSw; go_simp; (try with_reducible rfl))
          (try simp only [Act.put, List.getElem_toArray, List.getElem_cons_zero, List.getElem_cons_succ, List.setIfInBounds_toArray, List.set_cons_zero, List.set_cons_succ])
          refine wpAnyH_take (i := 5) (v := ?_) rfl (by kernel_rfl) (by kernel_rfl) (by kernel_rfl) (fun _ _ _ h => h) (Or.inl ⟨by rfl, ?_⟩) (by assumption) ?_
          rotate_left
          · (intro wx hSw; have c4 : wx.cell? ⟨w.heap.size, 257 + m, none⟩ = some (.bool false) := (inK_cell hSw.out.1 4 (by decide) m (by omega)).trans (by rw [hbm.out]); go_simp; (try with_reducible rfl))
          (try simp only [Act.put, List.getElem_toArray, List.getElem_cons_zero, List.getElem_cons_succ, List.setIfInBounds_toArray, List.set_cons_zero, List.set_cons_succ])
          refine wpAnyH_take (i := 6) (v := ?_) rfl (by kernel_rfl) (by kernel_rfl) (by kernel_rfl) (fun _ _ _ h => h) (Or.inl ⟨by rfl, ?_⟩) (by assumption) ?_
          rotate_left
          · (intro wx hSw; go_simp; (try with_reducible rfl))
          (try simp only [Act.put, List.getElem_toArray, List.getElem_cons_zero, List.getElem_cons_succ, List.setIfInBounds_toArray, List.set_cons_zero, List.set_cons_succ])
          refine wpAnyH_take (i := 7) (v := undef) rfl (by kernel_rfl) (by kernel_rfl) (by kernel_rfl) (fun _ _ _ h => h) (Or.inr ⟨by rfl, rfl⟩) (by assumption) ?_
          (try simp only [Act.put, List.getElem_toArray, List.getElem_cons_zero, List.getElem_cons_succ, List.setIfInBounds_toArray, List.set_cons_zero, List.set_cons_succ])
          refine wpAnyH_take (i := 8) (v := undef) rfl (by kernel_rfl) (by kernel_rfl) (by kernel_rfl) (fun _ _ _ h => h) (Or.inr ⟨by rfl, rfl⟩) (by assumption) ?_
          (try simp only [Act.put, List.getElem_toArray, List.getElem_cons_zero, List.getElem_cons_succ, List.setIfInBounds_toArray, List.set_cons_zero, List.set_cons_succ])
          refine wpAnyH_take (i := 9) (v := undef) rfl (by kernel_rfl) (by kernel_rfl) (by kernel_rfl) (fun _ _ _ h => h) (Or.inr ⟨by rfl, rfl⟩) (by assumption) ?_
          (try simp only [Act.put, List.getElem_toArray, List.getElem_cons_zero, List.getElem_cons_succ, List.setIfInBounds_toArray, List.set_cons_zero, List.set_cons_succ])
          refine wpAnyH_take (i := 10) (v := undef) rfl (by kernel_rfl) (by kernel_rfl) (by kernel_rfl) (fun _ _ _ h => h) (Or.inr ⟨by rfl, rfl⟩) (by assumption) ?_
          (try simp only [Act.put, List.getElem_toArray, List.getElem_cons_zero, List.getElem_cons_succ, List.setIfInBounds_toArray, List.set_cons_zero, List.set_cons_succ])
          refine wpAnyH_take (i := 11) (v := undef) rfl (by kernel_rfl) (by kernel_rfl) (by kernel_rfl) (fun _ _ _ h => h) (Or.inr ⟨by rfl, rfl⟩) (by assumption) ?_
          (try simp only [Act.put, List.getElem_toArray, List.getElem_cons_zero, List.getElem_cons_succ, List.setIfInBounds_toArray, List.set_cons_zero, List.set_cons_succ])
          refine wpAnyH_take (i := 12) (v := ?_) rfl (by kernel_rfl) (by kernel_rfl) (by kernel_rfl) (fun _ _ _ h => h) (Or.inl ⟨by rfl, ?_⟩) (by assumption) ?_
          rotate_left
          · (intro wx hSw; go_simp; (try with_reducible rfl))
          (try simp only [Act.put, List.getElem_toArray, List.getElem_cons_zero, List.getElem_cons_succ, List.setIfInBounds_toArray, List.set_cons_zero, List.set_cons_succ])
          refine wpAnyH_done (by kernel_rfl) ?_ _
          have HL2 : Hid (wr.drew.rangeAt w.heap.size 0 (fieldsL s) ∧ RowAt wr.drew p 74 #[.int .i64 y, .int .i64 m, .int .i64 d] ∧ Below w.heap.size w wr.drew) := hHeld
          clear hHeld HL c0
          have HGL : Hid (w.heap.size < wr.drew.heap.size) := Lib.hid (range_lt HL2.out.1 (by rw [fieldsL_len]; omega))
          refine q_named ?_
          intro Wc hWc
          rw [hWc] at HL2 HGL
          clear hWc
          have t0 : Wc.cell? ⟨p, 0, none⟩ = some (.int .i64 y) := HL2.out.2.1.cell 0
          have t1 : Wc.cell? ⟨p, 1, none⟩ = some (.int .i64 m) := HL2.out.2.1.cell 1
          have t2 : Wc.cell? ⟨p, 2, none⟩ = some (.int .i64 d) := HL2.out.2.1.cell 2
          have HST : Hid (DayI s first (n + 1) 0) := Lib.hid (HD.out.skip ha (by rw [HFD.out, hbm.out]; rfl))
          go_wp2_with fail
          refine (tomorrow_any n y m d (Lib.hid ⟨HY.out.1, HY.out.2.1, HY.out.2.2⟩) (by omega) (by omega) (by omega) (by omega) (by omega) (by omega) _).mono ?_
          rintro e w8 ⟨rfl, hb8⟩
          have z8 : RowAt w8 Wc.heap.size 74 #[.int .i64 y, .int .i64 m, .int .i64 d] := RowAt.below (rowAt_last Wc _ _ _ rfl) hb8
          have b7 : Below Wc.heap.size Wc w8 := Below.trans (by repeat (first | (with_reducible assumption) | (with_reducible exact Below.refl _ _) | (with_reducible refine Below.setCell ?_ (by first | omega | (simp <;> omega)) _) | refine below_drewN ?_ _ | refine Below.drew ?_ | refine Below.alloc ?_ (by first | omega | (simp <;> omega)) _)) (hb8.mono (by simp))
          have h7 : Wc.heap.size < w8.heap.size := z8.lt
          clear hb8
          obtain ⟨Y', hY'⟩ : ∃ Y', Hid (yearOf (n + 1) = Y') := ⟨_, rfl⟩
          obtain ⟨M', hM'⟩ : ∃ M', Hid (monthOf (n + 1) = M') := ⟨_, rfl⟩
          obtain ⟨D', hD'⟩ : ∃ D', Hid (dayOf (n + 1) = D') := ⟨_, rfl⟩
          rw [hY'.out, hM'.out, hD'.out]
          obtain ⟨p8, hp8⟩ : ∃ p8, Hid (Wc.heap.size = p8) := ⟨_, rfl⟩
          rw [hp8.out] at z8 h7 ⊢
          have v0 : w8.cell? ⟨p8, 0, none⟩ = some (.int .i64 y) := z8.cell 0
          have v1 : w8.cell? ⟨p8, 1, none⟩ = some (.int .i64 m) := z8.cell 1
          have v2 : w8.cell? ⟨p8, 2, none⟩ = some (.int .i64 d) := z8.cell 2
          have f0 := z8.free 0
          have f1 := z8.free 1
          have f2 := z8.free 2
          have hpg : w.heap.size < p8 := by have := HL2.out.2.2.size; have := hp8.out; have := HGL.out; omega
          go_wp2_with fail
          have HN : Hid (LInv w (((w8.setCell ⟨p8, 0, none⟩ (.int .i64 Y')).setCell ⟨p8, 1, none⟩ (.int .i64 M')).setCell ⟨p8, 2, none⟩ (.int .i64 D')) s first lim (n + 1) 0 p8) := by
            refine Lib.hid ⟨?_, ?_, ?_, HST.out, by have := year_next n; have := HY.out.1; omega⟩
            · have hb9 : Below Wc.heap.size Wc (((w8.setCell ⟨p8, 0, none⟩ (.int .i64 Y')).setCell ⟨p8, 1, none⟩ (.int .i64 M')).setCell ⟨p8, 2, none⟩ (.int .i64 D')) := below_set3 b7 (by have := hp8.out; omega) _ _ _
              exact rangeAt_below HL2.out.1 hb9
            · rw [hY'.out, hM'.out, hD'.out]; exact z8.own3 _ _ _
            · exact below_set3 (HL2.out.2.2.trans (b7.mono HL2.out.2.2.size)) (by omega) _ _ _
          clear v0 v1 v2 f0 f1 f2 t0 t1 t2 z8 b7
          go_roundw
          case rel => exact ⟨n + 1, 0, p8, by go_num, by go_num, by go_num, by omega, by omega, by omega, HN⟩
          case measure => simp [intOf]; omega
        | true =>
          refine wp_region_held_drew (S := fun w' => Hid (w'.rangeAt w.heap.size 0 (fieldsL s) ∧ RowAt w' p 74 #[.int .i64 y, .int .i64 m, .int .i64 d] ∧ Below w.heap.size w w')) (by kernel_rfl) (Lib.hid ⟨(World.rangeAt_drew _ _ _ _).2 HL.out.1, HL.out.2.1, HL.out.2.2.drew⟩) (fun hHeld => ?_)
          (try simp only [Act.put, List.getElem_toArray, List.getElem_cons_zero, List.getElem_cons_succ, List.setIfInBounds_toArray, List.set_cons_zero, List.set_cons_succ])
          refine wpAnyH_take (i := 0) (v := ?_) rfl (by kernel_rfl) (by kernel_rfl) (by kernel_rfl) (fun _ _ _ h => h) (Or.inl ⟨by rfl, ?_⟩) (by assumption) ?_
          rotate_left
          · (intro wx hSw; go_simp; (try with_reducible rfl))
          (try simp only [Act.put, List.getElem_toArray, List.getElem_cons_zero, List.getElem_cons_succ, List.setIfInBounds_toArray, List.set_cons_zero, List.set_cons_succ])
          refine wpAnyH_take (i := 1) (v := ?_) rfl (by kernel_rfl) (by kernel_rfl) (by kernel_rfl) (fun _ _ _ h => h) (Or.inl ⟨by rfl, ?_⟩) (by assumption) ?_
          rotate_left
          · (intro wx hSw; have c1 : wx.cell? ⟨p, 1, none⟩ = some (.int .i64 m) := hSw.out.2.1.cell 1; go_simp; (try with_reducible rfl))
          (try simp only [Act.put, List.getElem_toArray, List.getElem_cons_zero, List.getElem_cons_succ, List.setIfInBounds_toArray, List.set_cons_zero, List.set_cons_succ])
          refine wpAnyH_take (i := 2) (v := ?_) rfl (by kernel_rfl) (by kernel_rfl) (by kernel_rfl) (fun _ _ _ h => h) (Or.inl ⟨by rfl, ?_⟩) (by assumption) ?_
          rotate_left
          · (intro wx hSw; go_simp; (try with_reducible rfl))
          (try simp only [Act.put, List.getElem_toArray, List.getElem_cons_zero, List.getElem_cons_succ, List.setIfInBounds_toArray, List.set_cons_zero, List.set_cons_succ])
          refine wpAnyH_take (i := 3) (v := ?_) rfl (by kernel_rfl) (by kernel_rfl) (by kernel_rfl) (fun _ _ _ h => h) (Or.inl ⟨by rfl, ?_⟩) (by assumption) ?_
          rotate_left
          · (intro wx hSw; go_simp; (try with_reducible rfl))
          (try simp only [Act.put, List.getElem_toArray, List.getElem_cons_zero, List.getElem_cons_succ, List.setIfInBounds_toArray, List.set_cons_zero, List.set_cons_succ])
          refine wpAnyH_take (i := 4) (v := ?_) rfl (by kernel_rfl) (by kernel_rfl) (by kernel_rfl) (fun _ _ _ h => h) (Or.inl ⟨by rfl, ?_⟩) (by assumption) ?_
          rotate_left
          · (intro wx hSw; go_simp; (try with_reducible rfl))
          (try simp only [Act.put, List.getElem_toArray, List.getElem_cons_zero, List.getElem_cons_succ, List.setIfInBounds_toArray, List.set_cons_zero, List.set_cons_succ])
          refine wpAnyH_take (i := 5) (v := ?_) rfl (by kernel_rfl) (by kernel_rfl) (by kernel_rfl) (fun _ _ _ h => h) (Or.inl ⟨by rfl, ?_⟩) (by assumption) ?_
          rotate_left
          · (intro wx hSw; have c4 : wx.cell? ⟨w.heap.size, 257 + m, none⟩ = some (.bool true) := (inK_cell hSw.out.1 4 (by decide) m (by omega)).trans (by rw [hbm.out]); go_simp; (try with_reducible rfl))
          (try simp only [Act.put, List.getElem_toArray, List.getElem_cons_zero, List.getElem_cons_succ, List.setIfInBounds_toArray, List.set_cons_zero, List.set_cons_succ])
          refine wpAnyH_take (i := 6) (v := ?_) rfl (by kernel_rfl) (by kernel_rfl) (by kernel_rfl) (fun _ _ _ h => h) (Or.inl ⟨by rfl, ?_⟩) (by assumption) ?_
          rotate_left
          · (intro wx hSw; go_simp; (try with_reducible rfl))
          (try simp only [Act.put, List.getElem_toArray, List.getElem_cons_zero, List.getElem_cons_succ, List.setIfInBounds_toArray, List.set_cons_zero, List.set_cons_succ])
          refine wpAnyH_take (i := 7) rfl (by kernel_rfl) (by kernel_rfl) (by kernel_rfl) (fun _ _ _ h => h) (yieldsIf_load_mid (by rfl) 46 (.tmp 4) rfl w.heap.size 0 (by simp [Act.eval]) (fieldsL s) _ (fun wx hx => hx.out.1) Try.underlying46 rfl (infoCF.trans (by rw [fieldsL_len]))) (by assumption) ?_
          rw [← hA.out]
          (try simp only [Act.put, List.getElem_toArray, List.getElem_cons_zero, List.getElem_cons_succ, List.setIfInBounds_toArray, List.set_cons_zero, List.set_cons_succ])
          refine wpAnyH_take (i := 8) (v := ?_) rfl (by kernel_rfl) (by kernel_rfl) (by kernel_rfl) (fun _ _ _ h => h) (Or.inl ⟨by rfl, ?_⟩) (by assumption) ?_
          rotate_left
          · (intro wx hSw; have k0 : wx.cell? ⟨p, 0, none⟩ = some (.int .i64 y) := hSw.out.2.1.cell 0; have k1 : wx.cell? ⟨p, 1, none⟩ = some (.int .i64 m) := hSw.out.2.1.cell 1; have k2 : wx.cell? ⟨p, 2, none⟩ = some (.int .i64 d) := hSw.out.2.1.cell 2; go_simp; (try with_reducible rfl))
          (try simp only [Act.put, List.getElem_toArray, List.getElem_cons_zero, List.getElem_cons_succ, List.setIfInBounds_toArray, List.set_cons_zero, List.set_cons_succ])
          refine wpAnyH_take (i := 9) (v := ?_) rfl (by kernel_rfl) (by kernel_rfl) (by kernel_rfl) (fun _ _ _ h => h) (Or.inl ⟨by rfl, ?_⟩) (by assumption) ?_
          rotate_left
          · (intro wx hSw; go_simp; (try with_reducible rfl))
          (try simp only [Act.put, List.getElem_toArray, List.getElem_cons_zero, List.getElem_cons_succ, List.setIfInBounds_toArray, List.set_cons_zero, List.set_cons_succ])
          refine wpAnyH_ready (rs := [10]) (by kernel_rfl) (by simp) ?_
          refine (AllReadyH.cons rfl (fun K hK => ?_) AllReadyH.nil)
          go_simp
          go_at_call 58
          refine (HW.out _).mono ?_
          rintro e w5 ⟨rfl, rfl⟩
          have HN := Lib.hid hHeld.out
          refine hK.out _ _ HN (fun hH2 => ?_)
          clear hK K hHeld 
          have hHeld := hH2
          clear hH2
          (try simp only [Act.put, List.getElem_toArray, List.getElem_cons_zero, List.getElem_cons_succ, List.setIfInBounds_toArray, List.set_cons_zero, List.set_cons_succ])
          refine wpAnyH_ready (rs := [11]) (by kernel_rfl) (by simp) ?_
          refine (AllReadyH.cons rfl (fun K hK => ?_) AllReadyH.nil)
          go_simp
          go_at_call 62
          refine (dayFits_any A s hA y m d wd (by omega) (by omega) (by omega) _).mono ?_
          rintro e w6 ⟨rfl, hb6⟩
          have HN : Hid (w6.rangeAt w.heap.size 0 (fieldsL s) ∧ RowAt w6 p 74 #[.int .i64 y, .int .i64 m, .int .i64 d] ∧ Below w.heap.size w w6) := ⟨rangeAt_below hHeld.out.1 hb6, hHeld.out.2.1.below hb6, hHeld.out.2.2.trans ((hb6).mono hHeld.out.2.2.size)⟩
          clear hb6
          rw [hbd.out]
          refine hK.out _ _ HN (fun hH2 => ?_)
          clear hK K hHeld 
          have hHeld := hH2
          clear hH2
          (try simp only [Act.put, List.getElem_toArray, List.getElem_cons_zero, List.getElem_cons_succ, List.setIfInBounds_toArray, List.set_cons_zero, List.set_cons_succ])
          refine wpAnyH_take (i := 12) (v := ?_) rfl (by kernel_rfl) (by kernel_rfl) (by kernel_rfl) (fun _ _ _ h => h) (Or.inl ⟨by rfl, ?_⟩) (by assumption) ?_
          rotate_left
          · (intro wx hSw; go_simp; (try with_reducible rfl))
          (try simp only [Act.put, List.getElem_toArray, List.getElem_cons_zero, List.getElem_cons_succ, List.setIfInBounds_toArray, List.set_cons_zero, List.set_cons_succ])
          refine wpAnyH_done (by kernel_rfl) ?_ _
          have HL2 : Hid (w6.rangeAt w.heap.size 0 (fieldsL s) ∧ RowAt w6 p 74 #[.int .i64 y, .int .i64 m, .int .i64 d] ∧ Below w.heap.size w w6) := hHeld
          have HGL : Hid (w.heap.size < w6.heap.size) := Lib.hid (range_lt HL2.out.1 (by rw [fieldsL_len]; omega))
          clear hHeld HL c0
          cases bd with
          | false =>
            have t0 : w6.cell? ⟨p, 0, none⟩ = some (.int .i64 y) := HL2.out.2.1.cell 0
            have t1 : w6.cell? ⟨p, 1, none⟩ = some (.int .i64 m) := HL2.out.2.1.cell 1
            have t2 : w6.cell? ⟨p, 2, none⟩ = some (.int .i64 d) := HL2.out.2.1.cell 2
            have HST : Hid (DayI s first (n + 1) 0) := Lib.hid (HD.out.skip ha (by rw [HFD.out, hbd.out]; simp))
            go_wp2_with fail
            refine (tomorrow_any n y m d (Lib.hid ⟨HY.out.1, HY.out.2.1, HY.out.2.2⟩) (by omega) (by omega) (by omega) (by omega) (by omega) (by omega) _).mono ?_
            rintro e w8 ⟨rfl, hb8⟩
            have z8 : RowAt w8 w6.heap.size 74 #[.int .i64 y, .int .i64 m, .int .i64 d] := RowAt.below (rowAt_last w6 _ _ _ rfl) hb8
            have b7 : Below w6.heap.size w6 w8 := Below.trans (by repeat (first | (with_reducible assumption) | (with_reducible exact Below.refl _ _) | (with_reducible refine Below.setCell ?_ (by first | omega | (simp <;> omega)) _) | refine below_drewN ?_ _ | refine Below.drew ?_ | refine Below.alloc ?_ (by first | omega | (simp <;> omega)) _)) (hb8.mono (by simp))
            have h7 : w6.heap.size < w8.heap.size := z8.lt
            clear hb8
            obtain ⟨Y', hY'⟩ : ∃ Y', Hid (yearOf (n + 1) = Y') := ⟨_, rfl⟩
            obtain ⟨M', hM'⟩ : ∃ M', Hid (monthOf (n + 1) = M') := ⟨_, rfl⟩
            obtain ⟨D', hD'⟩ : ∃ D', Hid (dayOf (n + 1) = D') := ⟨_, rfl⟩
            rw [hY'.out, hM'.out, hD'.out]
            obtain ⟨p8, hp8⟩ : ∃ p8, Hid (w6.heap.size = p8) := ⟨_, rfl⟩
            rw [hp8.out] at z8 h7 ⊢
            have v0 : w8.cell? ⟨p8, 0, none⟩ = some (.int .i64 y) := z8.cell 0
            have v1 : w8.cell? ⟨p8, 1, none⟩ = some (.int .i64 m) := z8.cell 1
            have v2 : w8.cell? ⟨p8, 2, none⟩ = some (.int .i64 d) := z8.cell 2
            have f0 := z8.free 0
            have f1 := z8.free 1
            have f2 := z8.free 2
            have hpg : w.heap.size < p8 := by have := HL2.out.2.2.size; have := hp8.out; have := HGL.out; omega
            go_wp2_with fail
            have HN : Hid (LInv w (((w8.setCell ⟨p8, 0, none⟩ (.int .i64 Y')).setCell ⟨p8, 1, none⟩ (.int .i64 M')).setCell ⟨p8, 2, none⟩ (.int .i64 D')) s first lim (n + 1) 0 p8) := by
              refine Lib.hid ⟨?_, ?_, ?_, HST.out, by have := year_next n; have := HY.out.1; omega⟩
              · have hb9 : Below w6.heap.size w6 (((w8.setCell ⟨p8, 0, none⟩ (.int .i64 Y')).setCell ⟨p8, 1, none⟩ (.int .i64 M')).setCell ⟨p8, 2, none⟩ (.int .i64 D')) := below_set3 b7 (by have := hp8.out; omega) _ _ _
                exact rangeAt_below HL2.out.1 hb9
              · rw [hY'.out, hM'.out, hD'.out]; exact z8.own3 _ _ _
              · exact below_set3 (HL2.out.2.2.trans (b7.mono HL2.out.2.2.size)) (by omega) _ _ _
            clear v0 v1 v2 f0 f1 f2 t0 t1 t2 z8 b7
            go_roundw
            case rel => exact ⟨n + 1, 0, p8, by go_num, by go_num, by go_num, by omega, by omega, by omega, HN⟩
            case measure => simp [intOf]; omega
          | true =>
            go_wp2_with (first | (refine wpList_load_mid rfl 46 (.tmp 4) rfl w.heap.size 0 (by simp [Act.eval]) (fieldsL s) _ HL2.out.1 Try.underlying46 rfl (infoCF.trans (by rw [fieldsL_len])) (stop_here ?_)))
            rw [← hA.out]
            unfold Stop
            go_wp2_with fail
            refine (cronTime_any A s hA a ha _).mono ?_
            rintro e w7 ⟨r, hr, rfl, hb7⟩
            have HL3 : Hid (w7.rangeAt w.heap.size 0 (fieldsL s) ∧ RowAt w7 p 74 #[.int .i64 y, .int .i64 m, .int .i64 d] ∧ Below w.heap.size w w7) := Lib.hid ⟨rangeAt_below HL2.out.1 hb7, HL2.out.2.1.below hb7, HL2.out.2.2.trans (hb7.mono HL2.out.2.2.size)⟩
            have HGL' : Hid (w.heap.size < w7.heap.size) := Lib.hid (range_lt HL3.out.1 (by rw [fieldsL_len]; omega))
            clear HL2 HGL hb7
            have HGL := HGL'
            clear HGL'
            rcases hr.out with ⟨rfl, hno⟩ | ⟨x, rfl, hax, hx, hxt, hxn⟩
            · have hno := Lib.hid hno
              have t0 : w7.cell? ⟨p, 0, none⟩ = some (.int .i64 y) := HL3.out.2.1.cell 0
              have t1 : w7.cell? ⟨p, 1, none⟩ = some (.int .i64 m) := HL3.out.2.1.cell 1
              have t2 : w7.cell? ⟨p, 2, none⟩ = some (.int .i64 d) := HL3.out.2.1.cell 2
              have HST : Hid (DayI s first (n + 1) 0) := Lib.hid (HD.out.none ha hno.out)
              go_wp2_with fail
              refine (tomorrow_any n y m d (Lib.hid ⟨HY.out.1, HY.out.2.1, HY.out.2.2⟩) (by omega) (by omega) (by omega) (by omega) (by omega) (by omega) _).mono ?_
              rintro e w8 ⟨rfl, hb8⟩
              have z8 : RowAt w8 w7.heap.size 74 #[.int .i64 y, .int .i64 m, .int .i64 d] := RowAt.below (rowAt_last w7 _ _ _ rfl) hb8
              have b7 : Below w7.heap.size w7 w8 := Below.trans (by repeat (first | (with_reducible assumption) | (with_reducible exact Below.refl _ _) | (with_reducible refine Below.setCell ?_ (by first | omega | (simp <;> omega)) _) | refine below_drewN ?_ _ | refine Below.drew ?_ | refine Below.alloc ?_ (by first | omega | (simp <;> omega)) _)) (hb8.mono (by simp))
              have h7 : w7.heap.size < w8.heap.size := z8.lt
              clear hb8
              obtain ⟨Y', hY'⟩ : ∃ Y', Hid (yearOf (n + 1) = Y') := ⟨_, rfl⟩
              obtain ⟨M', hM'⟩ : ∃ M', Hid (monthOf (n + 1) = M') := ⟨_, rfl⟩
              obtain ⟨D', hD'⟩ : ∃ D', Hid (dayOf (n + 1) = D') := ⟨_, rfl⟩
              rw [hY'.out, hM'.out, hD'.out]
              obtain ⟨p8, hp8⟩ : ∃ p8, Hid (w7.heap.size = p8) := ⟨_, rfl⟩
              rw [hp8.out] at z8 h7 ⊢
              have v0 : w8.cell? ⟨p8, 0, none⟩ = some (.int .i64 y) := z8.cell 0
              have v1 : w8.cell? ⟨p8, 1, none⟩ = some (.int .i64 m) := z8.cell 1
              have v2 : w8.cell? ⟨p8, 2, none⟩ = some (.int .i64 d) := z8.cell 2
              have f0 := z8.free 0
              have f1 := z8.free 1
              have f2 := z8.free 2
              have hpg : w.heap.size < p8 := by have := HL3.out.2.2.size; have := hp8.out; have := HGL.out; omega
              go_wp2_with fail
              have HN : Hid (LInv w (((w8.setCell ⟨p8, 0, none⟩ (.int .i64 Y')).setCell ⟨p8, 1, none⟩ (.int .i64 M')).setCell ⟨p8, 2, none⟩ (.int .i64 D')) s first lim (n + 1) 0 p8) := by
                refine Lib.hid ⟨?_, ?_, ?_, HST.out, by have := year_next n; have := HY.out.1; omega⟩
                · have hb9 : Below w7.heap.size w7 (((w8.setCell ⟨p8, 0, none⟩ (.int .i64 Y')).setCell ⟨p8, 1, none⟩ (.int .i64 M')).setCell ⟨p8, 2, none⟩ (.int .i64 D')) := below_set3 b7 (by have := hp8.out; omega) _ _ _
                  exact rangeAt_below HL3.out.1 hb9
                · rw [hY'.out, hM'.out, hD'.out]; exact z8.own3 _ _ _
                · exact below_set3 (HL3.out.2.2.trans (b7.mono HL3.out.2.2.size)) (by omega) _ _ _
              clear v0 v1 v2 f0 f1 f2 t0 t1 t2 z8 b7
              go_roundw
              case rel => exact ⟨n + 1, 0, p8, by go_num, by go_num, by go_num, by omega, by omega, by omega, HN⟩
              case measure => simp [intOf]; omega
            · have HZ := Lib.hid (HD.out.found (by rw [HFD.out, hbm.out, hbd.out]; rfl) hx hax hxt hxn (by rw [HY.out.1]; exact hyl))
              have HX := Lib.hid (ans_at n x (by have := HD.out.1; omega))
              have hun2 : (86400 * n + (x : Int) < 4611686018427387904) = True := by simp only [eq_iff_iff, iff_true]; omega
              clear hr hxn hxt hax
              go_wp2_with fail
              go_ret2
              exact ⟨_, HZ, by rw [HX.out.1, HX.out.2]; rfl, HL3.out.2.2⟩
      · have hyl' : lim < y := by omega
        go_wp2_with fail
        go_ret2
        exact ⟨0, Lib.hid (HD.out.out ha (by rw [HY.out.1]; exact hyl')), by rw [ans_none.1, ans_none.2]; rfl, HL.out.2.2⟩

end Go.Proofs.Ytpgclepiagfgfaa
