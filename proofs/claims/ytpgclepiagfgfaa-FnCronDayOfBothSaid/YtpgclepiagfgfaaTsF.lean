/- spec.CronDayFits, CronTomorrow. -/
import Derived.Test.YtpgclepiagfgfaaTsE
namespace Go.Proofs.Ytpgclepiagfgfaa
open Go.RowKit
set_option linter.unusedVariables false
set_option linter.unusedSimpArgs false

theorem box_range (w : World) (A : Array Value) (t : TypeId) (l : List Value) (hA : A = l.toArray) : (w.alloc (.cells A t)).rangeAt w.heap.size 0 l := by
  intro j v hv
  rw [show 0 + j = j by omega, cell_of_row _ _ _ A _ (0, 0) (heap_alloc_new w (.cells A t)), hA]
  simpa using hv
theorem inK_cell {w : World} {g : Nat} {s : Sched} (h : w.rangeAt g 0 (fieldsL s)) (k : Nat) (hk : k < 6) (i : Nat) (hi : i < 63) : w.cell? ⟨g, k * 64 + 1 + i, none⟩ = some (.bool (inK s k i)) := by
  have := range_fields h k hk (i + 1) _ (setL_get _ _ i hi)
  rw [show k * 64 + (i + 1) = k * 64 + 1 + i by omega] at this
  exact this
theorem star_cell {w : World} {g : Nat} {s : Sched} (h : w.rangeAt g 0 (fieldsL s)) (k : Nat) (hk : k < 6) : w.cell? ⟨g, k * 64, none⟩ = some (.bool ((bitsK s k).testBit 63)) := range_fields h k hk 0 _ rfl
theorem inK_dom (s : Sched) (d : Nat) (h1 : 1 ≤ d) (h2 : d ≤ 31) : inK s 3 d = s.dom.testBit d := by simp [inK, lowK, highK, bitsK, h1, show d < 32 by omega]
theorem inK_dow (s : Sched) (d : Nat) (h2 : d ≤ 6) : inK s 5 d = s.dow.testBit d := by simp [inK, lowK, highK, bitsK, show d < 7 by omega]
theorem inK_mo (s : Sched) (d : Nat) (h1 : 1 ≤ d) (h2 : d ≤ 12) : inK s 4 d = s.mo.testBit d := by simp [inK, lowK, highK, bitsK, h1, show d < 13 by omega]
theorem inK_ho (s : Sched) (d : Nat) (h2 : d ≤ 23) : inK s 2 d = s.ho.testBit d := by simp [inK, lowK, highK, bitsK, show d < 24 by omega]
theorem inK_mi (s : Sched) (d : Nat) (h2 : d ≤ 59) : inK s 1 d = s.mi.testBit d := by simp [inK, lowK, highK, bitsK, show d < 60 by omega]
theorem inK_se (s : Sched) (d : Nat) (h2 : d ≤ 59) : inK s 0 d = s.se.testBit d := by simp [inK, lowK, highK, bitsK, show d < 60 by omega]

set_option maxRecDepth 100000 in
set_option maxHeartbeats 4000000 in
theorem dayFits_any (A : Array Value) (s : Sched) (hA : Hid (A = (fieldsL s).toArray)) (y m : Int) (d wd : Nat) (hd1 : 1 ≤ d) (hd2 : d ≤ 31) (hw2 : wd ≤ 6) (w : World) :
    Calls Try.prog 62 #[.agg A, .agg #[.int .i64 y, .int .i64 m, .int .i64 d], .int .i64 wd] w fun e w' => e = .returned (.bool (dayB s.dom s.dow d wd)) ∧ Below w.heap.size w w' := by
  obtain ⟨bd, Hbd⟩ : ∃ bd, Hid (inK s 3 d = bd) := ⟨_, rfl⟩
  obtain ⟨bw, Hbw⟩ : ∃ bw, Hid (inK s 5 wd = bw) := ⟨_, rfl⟩
  have Bd : ((d:Int) < 63) = True := by simp only [eq_iff_iff, iff_true]; omega
  have Bw : ((wd:Int) < 63) = True := by simp only [eq_iff_iff, iff_true]; omega
  obtain ⟨t1, T1⟩ : ∃ t1, Hid (s.dom.testBit 63 = t1) := ⟨_, rfl⟩
  obtain ⟨t2, T2⟩ : ∃ t2, Hid (s.dow.testBit 63 = t2) := ⟨_, rfl⟩
  have HD : Hid (dayB s.dom s.dow d wd = if t1 || t2 then bd && bw else bd || bw) := by
    show _ = _; unfold dayB; rw [T1.out, T2.out, ← inK_dom s d hd1 hd2, ← inK_dow s wd hw2, Hbd.out, Hbw.out]
  go_enter Try.func62, Try.ntmps62
  go_wp2_with fail
  refine wp_named ?_
  intro W2 hW2
  have HS : Hid ((Hid (W2.rangeAt w.heap.size 0 (fieldsL s)) ∧ Hid (RowAt W2 (w.heap.size + 1) 74 #[.int .i64 y, .int .i64 m, .int .i64 d]))) := by
    rw [← hW2]
    exact ⟨Lib.hid (World.rangeAt_alloc (box_range w A 46 _ hA.out) _), Lib.hid (rowAt_last _ _ _ _ (by simp))⟩
  have bk : Below w.heap.size w W2 := by rw [← hW2]; exact (by repeat (first | (with_reducible assumption) | (with_reducible exact Below.refl _ _) | (with_reducible refine Below.setCell ?_ (by first | omega | (simp <;> omega)) _) | refine below_drewN ?_ _ | refine Below.drew ?_ | refine Below.alloc ?_ (by first | omega | (simp <;> omega)) _))
  clear hW2
  refine wp_region_held_drew (S := fun w' => Hid (Hid (w'.rangeAt w.heap.size 0 (fieldsL s)) ∧ Hid (RowAt w' (w.heap.size + 1) 74 #[.int .i64 y, .int .i64 m, .int .i64 d]))) (by kernel_rfl) (Lib.hid ⟨Lib.hid ((World.rangeAt_drew _ _ _ _).2 HS.out.1.out), Lib.hid HS.out.2.out⟩) (fun hHeld => ?_)
  (try simp only [Act.put, List.getElem_toArray, List.getElem_cons_zero, List.getElem_cons_succ, List.setIfInBounds_toArray, List.set_cons_zero, List.set_cons_succ])
  refine wpAnyH_take (i := 0) (v := ?_) rfl (by kernel_rfl) (by kernel_rfl) (by kernel_rfl) (fun _ _ _ h => h) (Or.inl ⟨by rfl, ?_⟩) (by assumption) ?_
  rotate_left
  · (intro wx hSw; go_simp; (try with_reducible rfl))
  (try simp only [Act.put, List.getElem_toArray, List.getElem_cons_zero, List.getElem_cons_succ, List.setIfInBounds_toArray, List.set_cons_zero, List.set_cons_succ])
  refine wpAnyH_take (i := 1) (v := ?_) rfl (by kernel_rfl) (by kernel_rfl) (by kernel_rfl) (fun _ _ _ h => h) (Or.inl ⟨by rfl, ?_⟩) (by assumption) ?_
  rotate_left
  · (intro wx hSw; have c1 : wx.cell? ⟨w.heap.size + 1, 2, none⟩ = some (.int .i64 d) := hSw.out.2.out.cell 2; go_simp; (try with_reducible rfl))
  (try simp only [Act.put, List.getElem_toArray, List.getElem_cons_zero, List.getElem_cons_succ, List.setIfInBounds_toArray, List.set_cons_zero, List.set_cons_succ])
  refine wpAnyH_take (i := 2) (v := ?_) rfl (by kernel_rfl) (by kernel_rfl) (by kernel_rfl) (fun _ _ _ h => h) (Or.inl ⟨by rfl, ?_⟩) (by assumption) ?_
  rotate_left
  · (intro wx hSw; go_simp; (try with_reducible rfl))
  (try simp only [Act.put, List.getElem_toArray, List.getElem_cons_zero, List.getElem_cons_succ, List.setIfInBounds_toArray, List.set_cons_zero, List.set_cons_succ])
  refine wpAnyH_take (i := 3) (v := ?_) rfl (by kernel_rfl) (by kernel_rfl) (by kernel_rfl) (fun _ _ _ h => h) (Or.inl ⟨by rfl, ?_⟩) (by assumption) ?_
  rotate_left
  · (intro wx hSw; go_simp; (try with_reducible rfl))
  (try simp only [Act.put, List.getElem_toArray, List.getElem_cons_zero, List.getElem_cons_succ, List.setIfInBounds_toArray, List.set_cons_zero, List.set_cons_succ])
  refine wpAnyH_take (i := 4) (v := ?_) rfl (by kernel_rfl) (by kernel_rfl) (by kernel_rfl) (fun _ _ _ h => h) (Or.inl ⟨by rfl, ?_⟩) (by assumption) ?_
  rotate_left
  · (intro wx hSw; go_simp; (try with_reducible rfl))
  (try simp only [Act.put, List.getElem_toArray, List.getElem_cons_zero, List.getElem_cons_succ, List.setIfInBounds_toArray, List.set_cons_zero, List.set_cons_succ])
  refine wpAnyH_take (i := 5) (v := ?_) rfl (by kernel_rfl) (by kernel_rfl) (by kernel_rfl) (fun _ _ _ h => h) (Or.inl ⟨by rfl, ?_⟩) (by assumption) ?_
  rotate_left
  · (intro wx hSw; have c2 : wx.cell? ⟨w.heap.size, 193 + d, none⟩ = some (.bool bd) := (inK_cell hSw.out.1.out 3 (by decide) d (by omega)).trans (by rw [Hbd.out]); go_simp; (try with_reducible rfl))
  (try simp only [Act.put, List.getElem_toArray, List.getElem_cons_zero, List.getElem_cons_succ, List.setIfInBounds_toArray, List.set_cons_zero, List.set_cons_succ])
  refine wpAnyH_take (i := 6) (v := ?_) rfl (by kernel_rfl) (by kernel_rfl) (by kernel_rfl) (fun _ _ _ h => h) (Or.inl ⟨by rfl, ?_⟩) (by assumption) ?_
  rotate_left
  · (intro wx hSw; go_simp; (try with_reducible rfl))
  (try simp only [Act.put, List.getElem_toArray, List.getElem_cons_zero, List.getElem_cons_succ, List.setIfInBounds_toArray, List.set_cons_zero, List.set_cons_succ])
  refine wpAnyH_take (i := 7) (v := ?_) rfl (by kernel_rfl) (by kernel_rfl) (by kernel_rfl) (fun _ _ _ h => h) (Or.inl ⟨by rfl, ?_⟩) (by assumption) ?_
  rotate_left
  · (intro wx hSw; go_simp; (try with_reducible rfl))
  (try simp only [Act.put, List.getElem_toArray, List.getElem_cons_zero, List.getElem_cons_succ, List.setIfInBounds_toArray, List.set_cons_zero, List.set_cons_succ])
  refine wpAnyH_take (i := 8) (v := ?_) rfl (by kernel_rfl) (by kernel_rfl) (by kernel_rfl) (fun _ _ _ h => h) (Or.inl ⟨by rfl, ?_⟩) (by assumption) ?_
  rotate_left
  · (intro wx hSw; go_simp; (try with_reducible rfl))
  (try simp only [Act.put, List.getElem_toArray, List.getElem_cons_zero, List.getElem_cons_succ, List.setIfInBounds_toArray, List.set_cons_zero, List.set_cons_succ])
  refine wpAnyH_take (i := 9) (v := ?_) rfl (by kernel_rfl) (by kernel_rfl) (by kernel_rfl) (fun _ _ _ h => h) (Or.inl ⟨by rfl, ?_⟩) (by assumption) ?_
  rotate_left
  · (intro wx hSw; go_simp; (try with_reducible rfl))
  (try simp only [Act.put, List.getElem_toArray, List.getElem_cons_zero, List.getElem_cons_succ, List.setIfInBounds_toArray, List.set_cons_zero, List.set_cons_succ])
  refine wpAnyH_take (i := 10) (v := ?_) rfl (by kernel_rfl) (by kernel_rfl) (by kernel_rfl) (fun _ _ _ h => h) (Or.inl ⟨by rfl, ?_⟩) (by assumption) ?_
  rotate_left
  · (intro wx hSw; have c3 : wx.cell? ⟨w.heap.size, 321 + wd, none⟩ = some (.bool bw) := (inK_cell hSw.out.1.out 5 (by decide) wd (by omega)).trans (by rw [Hbw.out]); go_simp; (try with_reducible rfl))
  (try simp only [Act.put, List.getElem_toArray, List.getElem_cons_zero, List.getElem_cons_succ, List.setIfInBounds_toArray, List.set_cons_zero, List.set_cons_succ])
  refine wpAnyH_take (i := 11) (v := ?_) rfl (by kernel_rfl) (by kernel_rfl) (by kernel_rfl) (fun _ _ _ h => h) (Or.inl ⟨by rfl, ?_⟩) (by assumption) ?_
  rotate_left
  · (intro wx hSw; go_simp; (try with_reducible rfl))
  (try simp only [Act.put, List.getElem_toArray, List.getElem_cons_zero, List.getElem_cons_succ, List.setIfInBounds_toArray, List.set_cons_zero, List.set_cons_succ])
  refine wpAnyH_take (i := 12) (v := ?_) rfl (by kernel_rfl) (by kernel_rfl) (by kernel_rfl) (fun _ _ _ h => h) (Or.inl ⟨by rfl, ?_⟩) (by assumption) ?_
  rotate_left
  · (intro wx hSw; go_simp; (try with_reducible rfl))
  (try simp only [Act.put, List.getElem_toArray, List.getElem_cons_zero, List.getElem_cons_succ, List.setIfInBounds_toArray, List.set_cons_zero, List.set_cons_succ])
  refine wpAnyH_done (by kernel_rfl) ?_ _
  have s1 : W2.cell? ⟨w.heap.size, 192, none⟩ = some (.bool t1) := (star_cell HS.out.1.out 3 (by decide)).trans (by show some (Value.bool (s.dom.testBit 63)) = _; rw [T1.out])
  have s2 : W2.cell? ⟨w.heap.size, 320, none⟩ = some (.bool t2) := (star_cell HS.out.1.out 5 (by decide)).trans (by show some (Value.bool (s.dow.testBit 63)) = _; rw [T2.out])
  clear hHeld HS
  cases t1 <;> cases t2 <;> cases bd <;> cases bw
  all_goals
    go_wp2_with fail
    go_ret
    exact ⟨ret_bool (by rw [HD.out]; rfl), bk.drew⟩

end Go.Proofs.Ytpgclepiagfgfaa
