/- spec.CronItem. -/
import Derived.Test.YtkhggefbkhdimaaGreatDoorFdJ
namespace Go.Proofs.YtkhggefbkhdimaaGreatDoor
open Go.RowKit
set_option linter.unusedVariables false
set_option linter.unusedSimpArgs false

set_option maxRecDepth 100000 in
set_option maxHeartbeats 4000000 in
theorem item_2b (k lo hi : Nat) (t : ByteArray) (ht : t.size ≤ 2147483654) (P0 P1 : ByteArray) (HC : Hid (cutB 47 t = [P0, P1])) (low high0 v s u : Nat) (hv : v ≤ 2) (hu : u ≤ 2) (st sg : Bool) (HE : Hid (EndsIs lo hi k P0 low high0 st sg v)) (HS : Hid (StepIs P1 (s, u))) (high : Nat) (hH : Hid (high = if (sg && !st) = true then hi else high0)) (hw : worseN v u = 1) (hbad : low < lo ∨ hi < high ∨ high < low) (w : World) :
    Calls Tryz.prog 148 #[.agg #[.int .i64 lo, .int .i64 hi, .int .i64 k], .string t] w (SetV false noneB 0 w) := by
  have HW : Hid (worseN v u = 1) := Lib.hid hw
  clear hw
  have hH0 := hH.out
  clear hH
  cases sg
  · cases st
    · simp at hH0
      subst hH0
      rcases (by omega : low < lo ∨ (lo ≤ low ∧ hi < high) ∨ (lo ≤ low ∧ high ≤ hi ∧ high < low)) with q1 | ⟨q1, q2⟩ | ⟨q1, q2, q3⟩
      · have g1 : decide (low < lo) = true := decide_eq_true q1
        go_enter Tryz.func148, Tryz.ntmps148
        go_wp2_with fail
        have ea : ((w.alloc (.cells #[.int .i64 lo, .int .i64 hi, .int .i64 k] 209)).alloc (.cells (setL false noneB).toArray 28)).heap[w.heap.size]? = some (.cells #[.int .i64 lo, .int .i64 hi, .int .i64 k] 209) := by
          rw [Below.heap_alloc _ _ _ (by simp)]; exact heap_alloc_new w _
        have ez : ((w.alloc (.cells #[.int .i64 lo, .int .i64 hi, .int .i64 k] 209)).alloc (.cells (setL false noneB).toArray 28)).heap[w.heap.size + 1]? = some (.cells (setL false noneB).toArray 28) := by
          have := heap_alloc_new (w.alloc (.cells #[.int .i64 lo, .int .i64 hi, .int .i64 k] 209)) (.cells (setL false noneB).toArray 28)
          rw [show (w.alloc (.cells #[.int .i64 lo, .int .i64 hi, .int .i64 k] 209)).heap.size = w.heap.size + 1 by simp] at this
          exact this
        have hw0 : Below w.heap.size w ((w.alloc (.cells #[.int .i64 lo, .int .i64 hi, .int .i64 k] 209)).alloc (.cells (setL false noneB).toArray 28)) := (by repeat (first | (with_reducible assumption) | (with_reducible exact Below.refl _ _) | (with_reducible refine below_drewN ?_ _) | (with_reducible refine Below.drew ?_) | (with_reducible refine Below.alloc ?_ (by first | omega | (simp <;> omega)) _)))
        have hz0 : ((w.alloc (.cells #[.int .i64 lo, .int .i64 hi, .int .i64 k] 209)).alloc (.cells (setL false noneB).toArray 28)).heap.size = w.heap.size + 2 := by simp
        refine (pieces_any t 47 ht _).mono ?_
        rintro e w1 ⟨v1, rfl, hown1, hb1⟩
        change Below ((w.alloc (.cells #[.int .i64 lo, .int .i64 hi, .int .i64 k] 209)).alloc (.cells (setL false noneB).toArray 28)).heap.size ((w.alloc (.cells #[.int .i64 lo, .int .i64 hi, .int .i64 k] 209)).alloc (.cells (setL false noneB).toArray 28)) w1 at hb1
        generalize (w.alloc (.cells #[.int .i64 lo, .int .i64 hi, .int .i64 k] 209)).alloc (.cells (setL false noneB).toArray 28) = wa at hb1 ea ez hw0 hz0
        have d0 : w1.cell? ⟨w.heap.size, 0, none⟩ = some (.int .i64 lo) := cellB hb1 (cell_of_row _ _ 0 _ _ (0, 0) ea)
        have d1 : w1.cell? ⟨w.heap.size, 1, none⟩ = some (.int .i64 hi) := cellB hb1 (cell_of_row _ _ 1 _ _ (0, 0) ea)
        have d2 : w1.cell? ⟨w.heap.size, 2, none⟩ = some (.int .i64 k) := cellB hb1 (cell_of_row _ _ 2 _ _ (0, 0) ea)
        have HR1 : Hid (w1.rangeAt (w.heap.size + 1) 0 (setL false noneB)) := Lib.hid (rangeAt_below (fun j v hv => by rw [show 0 + j = j by omega, cell_of_row _ _ j _ _ (0, 0) ez]; simpa using hv) hb1)
        have HT1 : Hid (w1.there (w.heap.size + 1) 0 64) := Lib.hid (there_below (fun j hj => by
          constructor
          · rw [cell_of_row _ _ _ _ _ (0, 0) ez]; simp [setL_len]; omega
          · unfold World.frozen?; rw [ez]; simp) hb1)
        have B0 : Hid (Below w.heap.size w w1) := Lib.hid (hw0.trans (hb1.mono hw0.size))
        have hz1 : w.heap.size + 2 ≤ w1.heap.size := by have := hb1.size; omega
        have bk : Below w1.heap.size w1 w1 := Below.refl _ _
        clear hb1 hw0 ea ez hz0
        rw [show ((47 : UInt8).toNat : Int) = 47 from rfl, HC.out] at hown1
        obtain ⟨g1, cap1, rfl, hc1, hm1, hcell1⟩ := own_open hown1 (by simp)
        have y0 : w1.cell? ⟨g1, 0, none⟩ = some (.string P0) := hcell1 0 (by simp)
        have y1 : w1.cell? ⟨g1, 1, none⟩ = some (.string P1) := hcell1 1 (by simp)
        simp only [List.length_cons, List.length_nil, Nat.zero_add, Nat.reduceAdd] at hc1 ⊢
        unfold maxLen at hm1
        clear hown1 hcell1
        go_wp2_with fail
        go_region_held3 (fun w' => w'.cell? ⟨w.heap.size, 0, none⟩ = some (.int .i64 lo) ∧ w'.cell? ⟨w.heap.size, 1, none⟩ = some (.int .i64 hi) ∧ w'.cell? ⟨w.heap.size, 2, none⟩ = some (.int .i64 k) ∧ w'.cell? ⟨g1, 0, none⟩ = some (.string P0) ∧ w'.cell? ⟨g1, 1, none⟩ = some (.string P1)) (first | (refine ⟨?_, ?_, ?_, ?_, ?_⟩ <;> (repeat (first | assumption | (with_reducible refine keepD ?_) | (with_reducible refine keepN ?_) | (with_reducible refine keepV ?_)))) | go_keep)
          (first | (go_at_call 157; refine (HE.out _).mono ?_; rintro e w2 ⟨rfl, hb2⟩; have d0 : w2.cell? ⟨w.heap.size, 0, none⟩ = some (.int .i64 lo) := (by refine cellB hb2 ?_; (repeat (first | assumption | (with_reducible refine keepD ?_) | (with_reducible refine keepN ?_) | (with_reducible refine keepV ?_)))); have d1 : w2.cell? ⟨w.heap.size, 1, none⟩ = some (.int .i64 hi) := (by refine cellB hb2 ?_; (repeat (first | assumption | (with_reducible refine keepD ?_) | (with_reducible refine keepN ?_) | (with_reducible refine keepV ?_)))); have d2 : w2.cell? ⟨w.heap.size, 2, none⟩ = some (.int .i64 k) := (by refine cellB hb2 ?_; (repeat (first | assumption | (with_reducible refine keepD ?_) | (with_reducible refine keepN ?_) | (with_reducible refine keepV ?_)))); have y0 : w2.cell? ⟨g1, 0, none⟩ = some (.string P0) := (by refine cellB hb2 ?_; (repeat (first | assumption | (with_reducible refine keepD ?_) | (with_reducible refine keepN ?_) | (with_reducible refine keepV ?_)))); have y1 : w2.cell? ⟨g1, 1, none⟩ = some (.string P1) := (by refine cellB hb2 ?_; (repeat (first | assumption | (with_reducible refine keepD ?_) | (with_reducible refine keepN ?_) | (with_reducible refine keepV ?_)))); replace bk : Below w1.heap.size w1 w2 := Below.trans (by repeat (first | (with_reducible assumption) | (with_reducible exact Below.refl _ _) | (with_reducible refine below_drewN ?_ _) | (with_reducible refine Below.drew ?_) | (with_reducible refine Below.alloc ?_ (by first | omega | (simp <;> omega)) _))) (hb2.mono (by have := bk.size; first | omega | (simp <;> omega))); clear hb2))
        go_wp2_with fail
        refine (HS.out _).mono ?_
        rintro e w3 ⟨rfl, hb3⟩
        have d0 : w3.cell? ⟨w.heap.size, 0, none⟩ = some (.int .i64 lo) := cellB hb3 d0
        have d1 : w3.cell? ⟨w.heap.size, 1, none⟩ = some (.int .i64 hi) := cellB hb3 d1
        have d2 : w3.cell? ⟨w.heap.size, 2, none⟩ = some (.int .i64 k) := cellB hb3 d2
        have y0 : w3.cell? ⟨g1, 0, none⟩ = some (.string P0) := cellB hb3 y0
        have y1 : w3.cell? ⟨g1, 1, none⟩ = some (.string P1) := cellB hb3 y1
        replace bk : Below w1.heap.size w1 w3 := bk.trans (hb3.mono bk.size)
        clear hb3
        go_wp2_with (first | (go_at_call 84; refine (worse_any v u hv hu _).mono ?_; rintro e w9 ⟨rfl, rfl⟩; (try rw [HW.out]); refine stop_here ?_))
        unfold Stop
        have HTz : Hid (w3.there (w.heap.size + 1) 0 64) := Lib.hid (there_below HT1.out bk)
        have HBz : Hid (Below w.heap.size w w3) := Lib.hid (B0.out.trans (bk.mono (by omega)))
        go_wp2_with (first | (refine wpList_store_mid rfl 28 (.tmp 4) (.tmp 74) rfl (w.heap.size + 1) 0 (setL false noneB).toArray rfl rfl (by simpa [setL_len] using HTz.out) (infoCS.trans (by simp [setL_len])) (setL_one false noneB) ?_))
        have hfin : (w3.setCells (w.heap.size + 1) 0 (setL false noneB).toArray.toList).rangeAt (w.heap.size + 1) 0 (setL false noneB) := by
          have := World.rangeAt_setCells_same w3 (w.heap.size + 1) 0 (setL false noneB) (by rw [setL_len]; exact HTz.out)
          simpa using this
        have hbel : Below w.heap.size w (w3.setCells (w.heap.size + 1) 0 (setL false noneB).toArray.toList) := below_setCells (by omega) _ _ _ HBz.out
        refine bodyPost_ret (v := .tuple #[.agg (setL false noneB).toArray, .int .i64 0]) ?_ rfl ⟨rfl, hbel⟩
        have e9 : (setL false noneB).toArray.toList = setL false noneB := by simp
        rw [e9] at hfin
        generalize w3.setCells (w.heap.size + 1) 0 _ = W9 at hfin ⊢
        have hlv := run_loadVar_mid (P := Tryz.prog) W9 (w.heap.size + 1) 0 28 (setL false noneB) _ hfin Tryz.underlying28 rfl (infoCS.trans (by rw [setL_len]))
        clear hfin hbel e9 HR1
        generalize (setL false noneB).toArray = V9 at hlv ⊢
        simp [results, Tryz.results148, Act.put, Sem.run_bind, asAddr, hlv]
      · have g1 : decide (low < lo) = false := decide_eq_false (by omega)
        have g2 : decide (hi < high) = true := decide_eq_true q2
        go_enter Tryz.func148, Tryz.ntmps148
        go_wp2_with fail
        have ea : ((w.alloc (.cells #[.int .i64 lo, .int .i64 hi, .int .i64 k] 209)).alloc (.cells (setL false noneB).toArray 28)).heap[w.heap.size]? = some (.cells #[.int .i64 lo, .int .i64 hi, .int .i64 k] 209) := by
          rw [Below.heap_alloc _ _ _ (by simp)]; exact heap_alloc_new w _
        have ez : ((w.alloc (.cells #[.int .i64 lo, .int .i64 hi, .int .i64 k] 209)).alloc (.cells (setL false noneB).toArray 28)).heap[w.heap.size + 1]? = some (.cells (setL false noneB).toArray 28) := by
          have := heap_alloc_new (w.alloc (.cells #[.int .i64 lo, .int .i64 hi, .int .i64 k] 209)) (.cells (setL false noneB).toArray 28)
          rw [show (w.alloc (.cells #[.int .i64 lo, .int .i64 hi, .int .i64 k] 209)).heap.size = w.heap.size + 1 by simp] at this
          exact this
        have hw0 : Below w.heap.size w ((w.alloc (.cells #[.int .i64 lo, .int .i64 hi, .int .i64 k] 209)).alloc (.cells (setL false noneB).toArray 28)) := (by repeat (first | (with_reducible assumption) | (with_reducible exact Below.refl _ _) | (with_reducible refine below_drewN ?_ _) | (with_reducible refine Below.drew ?_) | (with_reducible refine Below.alloc ?_ (by first | omega | (simp <;> omega)) _)))
        have hz0 : ((w.alloc (.cells #[.int .i64 lo, .int .i64 hi, .int .i64 k] 209)).alloc (.cells (setL false noneB).toArray 28)).heap.size = w.heap.size + 2 := by simp
        refine (pieces_any t 47 ht _).mono ?_
        rintro e w1 ⟨v1, rfl, hown1, hb1⟩
        change Below ((w.alloc (.cells #[.int .i64 lo, .int .i64 hi, .int .i64 k] 209)).alloc (.cells (setL false noneB).toArray 28)).heap.size ((w.alloc (.cells #[.int .i64 lo, .int .i64 hi, .int .i64 k] 209)).alloc (.cells (setL false noneB).toArray 28)) w1 at hb1
        generalize (w.alloc (.cells #[.int .i64 lo, .int .i64 hi, .int .i64 k] 209)).alloc (.cells (setL false noneB).toArray 28) = wa at hb1 ea ez hw0 hz0
        have d0 : w1.cell? ⟨w.heap.size, 0, none⟩ = some (.int .i64 lo) := cellB hb1 (cell_of_row _ _ 0 _ _ (0, 0) ea)
        have d1 : w1.cell? ⟨w.heap.size, 1, none⟩ = some (.int .i64 hi) := cellB hb1 (cell_of_row _ _ 1 _ _ (0, 0) ea)
        have d2 : w1.cell? ⟨w.heap.size, 2, none⟩ = some (.int .i64 k) := cellB hb1 (cell_of_row _ _ 2 _ _ (0, 0) ea)
        have HR1 : Hid (w1.rangeAt (w.heap.size + 1) 0 (setL false noneB)) := Lib.hid (rangeAt_below (fun j v hv => by rw [show 0 + j = j by omega, cell_of_row _ _ j _ _ (0, 0) ez]; simpa using hv) hb1)
        have HT1 : Hid (w1.there (w.heap.size + 1) 0 64) := Lib.hid (there_below (fun j hj => by
          constructor
          · rw [cell_of_row _ _ _ _ _ (0, 0) ez]; simp [setL_len]; omega
          · unfold World.frozen?; rw [ez]; simp) hb1)
        have B0 : Hid (Below w.heap.size w w1) := Lib.hid (hw0.trans (hb1.mono hw0.size))
        have hz1 : w.heap.size + 2 ≤ w1.heap.size := by have := hb1.size; omega
        have bk : Below w1.heap.size w1 w1 := Below.refl _ _
        clear hb1 hw0 ea ez hz0
        rw [show ((47 : UInt8).toNat : Int) = 47 from rfl, HC.out] at hown1
        obtain ⟨g1, cap1, rfl, hc1, hm1, hcell1⟩ := own_open hown1 (by simp)
        have y0 : w1.cell? ⟨g1, 0, none⟩ = some (.string P0) := hcell1 0 (by simp)
        have y1 : w1.cell? ⟨g1, 1, none⟩ = some (.string P1) := hcell1 1 (by simp)
        simp only [List.length_cons, List.length_nil, Nat.zero_add, Nat.reduceAdd] at hc1 ⊢
        unfold maxLen at hm1
        clear hown1 hcell1
        go_wp2_with fail
        go_region_held3 (fun w' => w'.cell? ⟨w.heap.size, 0, none⟩ = some (.int .i64 lo) ∧ w'.cell? ⟨w.heap.size, 1, none⟩ = some (.int .i64 hi) ∧ w'.cell? ⟨w.heap.size, 2, none⟩ = some (.int .i64 k) ∧ w'.cell? ⟨g1, 0, none⟩ = some (.string P0) ∧ w'.cell? ⟨g1, 1, none⟩ = some (.string P1)) (first | (refine ⟨?_, ?_, ?_, ?_, ?_⟩ <;> (repeat (first | assumption | (with_reducible refine keepD ?_) | (with_reducible refine keepN ?_) | (with_reducible refine keepV ?_)))) | go_keep)
          (first | (go_at_call 157; refine (HE.out _).mono ?_; rintro e w2 ⟨rfl, hb2⟩; have d0 : w2.cell? ⟨w.heap.size, 0, none⟩ = some (.int .i64 lo) := (by refine cellB hb2 ?_; (repeat (first | assumption | (with_reducible refine keepD ?_) | (with_reducible refine keepN ?_) | (with_reducible refine keepV ?_)))); have d1 : w2.cell? ⟨w.heap.size, 1, none⟩ = some (.int .i64 hi) := (by refine cellB hb2 ?_; (repeat (first | assumption | (with_reducible refine keepD ?_) | (with_reducible refine keepN ?_) | (with_reducible refine keepV ?_)))); have d2 : w2.cell? ⟨w.heap.size, 2, none⟩ = some (.int .i64 k) := (by refine cellB hb2 ?_; (repeat (first | assumption | (with_reducible refine keepD ?_) | (with_reducible refine keepN ?_) | (with_reducible refine keepV ?_)))); have y0 : w2.cell? ⟨g1, 0, none⟩ = some (.string P0) := (by refine cellB hb2 ?_; (repeat (first | assumption | (with_reducible refine keepD ?_) | (with_reducible refine keepN ?_) | (with_reducible refine keepV ?_)))); have y1 : w2.cell? ⟨g1, 1, none⟩ = some (.string P1) := (by refine cellB hb2 ?_; (repeat (first | assumption | (with_reducible refine keepD ?_) | (with_reducible refine keepN ?_) | (with_reducible refine keepV ?_)))); replace bk : Below w1.heap.size w1 w2 := Below.trans (by repeat (first | (with_reducible assumption) | (with_reducible exact Below.refl _ _) | (with_reducible refine below_drewN ?_ _) | (with_reducible refine Below.drew ?_) | (with_reducible refine Below.alloc ?_ (by first | omega | (simp <;> omega)) _))) (hb2.mono (by have := bk.size; first | omega | (simp <;> omega))); clear hb2))
        go_wp2_with fail
        refine (HS.out _).mono ?_
        rintro e w3 ⟨rfl, hb3⟩
        have d0 : w3.cell? ⟨w.heap.size, 0, none⟩ = some (.int .i64 lo) := cellB hb3 d0
        have d1 : w3.cell? ⟨w.heap.size, 1, none⟩ = some (.int .i64 hi) := cellB hb3 d1
        have d2 : w3.cell? ⟨w.heap.size, 2, none⟩ = some (.int .i64 k) := cellB hb3 d2
        have y0 : w3.cell? ⟨g1, 0, none⟩ = some (.string P0) := cellB hb3 y0
        have y1 : w3.cell? ⟨g1, 1, none⟩ = some (.string P1) := cellB hb3 y1
        replace bk : Below w1.heap.size w1 w3 := bk.trans (hb3.mono bk.size)
        clear hb3
        go_wp2_with (first | (go_at_call 84; refine (worse_any v u hv hu _).mono ?_; rintro e w9 ⟨rfl, rfl⟩; (try rw [HW.out]); refine stop_here ?_))
        unfold Stop
        have HTz : Hid (w3.there (w.heap.size + 1) 0 64) := Lib.hid (there_below HT1.out bk)
        have HBz : Hid (Below w.heap.size w w3) := Lib.hid (B0.out.trans (bk.mono (by omega)))
        go_wp2_with (first | (refine wpList_store_mid rfl 28 (.tmp 4) (.tmp 74) rfl (w.heap.size + 1) 0 (setL false noneB).toArray rfl rfl (by simpa [setL_len] using HTz.out) (infoCS.trans (by simp [setL_len])) (setL_one false noneB) ?_))
        have hfin : (w3.setCells (w.heap.size + 1) 0 (setL false noneB).toArray.toList).rangeAt (w.heap.size + 1) 0 (setL false noneB) := by
          have := World.rangeAt_setCells_same w3 (w.heap.size + 1) 0 (setL false noneB) (by rw [setL_len]; exact HTz.out)
          simpa using this
        have hbel : Below w.heap.size w (w3.setCells (w.heap.size + 1) 0 (setL false noneB).toArray.toList) := below_setCells (by omega) _ _ _ HBz.out
        refine bodyPost_ret (v := .tuple #[.agg (setL false noneB).toArray, .int .i64 0]) ?_ rfl ⟨rfl, hbel⟩
        have e9 : (setL false noneB).toArray.toList = setL false noneB := by simp
        rw [e9] at hfin
        generalize w3.setCells (w.heap.size + 1) 0 _ = W9 at hfin ⊢
        have hlv := run_loadVar_mid (P := Tryz.prog) W9 (w.heap.size + 1) 0 28 (setL false noneB) _ hfin Tryz.underlying28 rfl (infoCS.trans (by rw [setL_len]))
        clear hfin hbel e9 HR1
        generalize (setL false noneB).toArray = V9 at hlv ⊢
        simp [results, Tryz.results148, Act.put, Sem.run_bind, asAddr, hlv]
      · have g1 : decide (low < lo) = false := decide_eq_false (by omega)
        have g2 : decide (hi < high) = false := decide_eq_false (by omega)
        have g3 : decide (high < low) = true := decide_eq_true q3
        go_enter Tryz.func148, Tryz.ntmps148
        go_wp2_with fail
        have ea : ((w.alloc (.cells #[.int .i64 lo, .int .i64 hi, .int .i64 k] 209)).alloc (.cells (setL false noneB).toArray 28)).heap[w.heap.size]? = some (.cells #[.int .i64 lo, .int .i64 hi, .int .i64 k] 209) := by
          rw [Below.heap_alloc _ _ _ (by simp)]; exact heap_alloc_new w _
        have ez : ((w.alloc (.cells #[.int .i64 lo, .int .i64 hi, .int .i64 k] 209)).alloc (.cells (setL false noneB).toArray 28)).heap[w.heap.size + 1]? = some (.cells (setL false noneB).toArray 28) := by
          have := heap_alloc_new (w.alloc (.cells #[.int .i64 lo, .int .i64 hi, .int .i64 k] 209)) (.cells (setL false noneB).toArray 28)
          rw [show (w.alloc (.cells #[.int .i64 lo, .int .i64 hi, .int .i64 k] 209)).heap.size = w.heap.size + 1 by simp] at this
          exact this
        have hw0 : Below w.heap.size w ((w.alloc (.cells #[.int .i64 lo, .int .i64 hi, .int .i64 k] 209)).alloc (.cells (setL false noneB).toArray 28)) := (by repeat (first | (with_reducible assumption) | (with_reducible exact Below.refl _ _) | (with_reducible refine below_drewN ?_ _) | (with_reducible refine Below.drew ?_) | (with_reducible refine Below.alloc ?_ (by first | omega | (simp <;> omega)) _)))
        have hz0 : ((w.alloc (.cells #[.int .i64 lo, .int .i64 hi, .int .i64 k] 209)).alloc (.cells (setL false noneB).toArray 28)).heap.size = w.heap.size + 2 := by simp
        refine (pieces_any t 47 ht _).mono ?_
        rintro e w1 ⟨v1, rfl, hown1, hb1⟩
        change Below ((w.alloc (.cells #[.int .i64 lo, .int .i64 hi, .int .i64 k] 209)).alloc (.cells (setL false noneB).toArray 28)).heap.size ((w.alloc (.cells #[.int .i64 lo, .int .i64 hi, .int .i64 k] 209)).alloc (.cells (setL false noneB).toArray 28)) w1 at hb1
        generalize (w.alloc (.cells #[.int .i64 lo, .int .i64 hi, .int .i64 k] 209)).alloc (.cells (setL false noneB).toArray 28) = wa at hb1 ea ez hw0 hz0
        have d0 : w1.cell? ⟨w.heap.size, 0, none⟩ = some (.int .i64 lo) := cellB hb1 (cell_of_row _ _ 0 _ _ (0, 0) ea)
        have d1 : w1.cell? ⟨w.heap.size, 1, none⟩ = some (.int .i64 hi) := cellB hb1 (cell_of_row _ _ 1 _ _ (0, 0) ea)
        have d2 : w1.cell? ⟨w.heap.size, 2, none⟩ = some (.int .i64 k) := cellB hb1 (cell_of_row _ _ 2 _ _ (0, 0) ea)
        have HR1 : Hid (w1.rangeAt (w.heap.size + 1) 0 (setL false noneB)) := Lib.hid (rangeAt_below (fun j v hv => by rw [show 0 + j = j by omega, cell_of_row _ _ j _ _ (0, 0) ez]; simpa using hv) hb1)
        have HT1 : Hid (w1.there (w.heap.size + 1) 0 64) := Lib.hid (there_below (fun j hj => by
          constructor
          · rw [cell_of_row _ _ _ _ _ (0, 0) ez]; simp [setL_len]; omega
          · unfold World.frozen?; rw [ez]; simp) hb1)
        have B0 : Hid (Below w.heap.size w w1) := Lib.hid (hw0.trans (hb1.mono hw0.size))
        have hz1 : w.heap.size + 2 ≤ w1.heap.size := by have := hb1.size; omega
        have bk : Below w1.heap.size w1 w1 := Below.refl _ _
        clear hb1 hw0 ea ez hz0
        rw [show ((47 : UInt8).toNat : Int) = 47 from rfl, HC.out] at hown1
        obtain ⟨g1, cap1, rfl, hc1, hm1, hcell1⟩ := own_open hown1 (by simp)
        have y0 : w1.cell? ⟨g1, 0, none⟩ = some (.string P0) := hcell1 0 (by simp)
        have y1 : w1.cell? ⟨g1, 1, none⟩ = some (.string P1) := hcell1 1 (by simp)
        simp only [List.length_cons, List.length_nil, Nat.zero_add, Nat.reduceAdd] at hc1 ⊢
        unfold maxLen at hm1
        clear hown1 hcell1
        go_wp2_with fail
        go_region_held3 (fun w' => w'.cell? ⟨w.heap.size, 0, none⟩ = some (.int .i64 lo) ∧ w'.cell? ⟨w.heap.size, 1, none⟩ = some (.int .i64 hi) ∧ w'.cell? ⟨w.heap.size, 2, none⟩ = some (.int .i64 k) ∧ w'.cell? ⟨g1, 0, none⟩ = some (.string P0) ∧ w'.cell? ⟨g1, 1, none⟩ = some (.string P1)) (first | (refine ⟨?_, ?_, ?_, ?_, ?_⟩ <;> (repeat (first | assumption | (with_reducible refine keepD ?_) | (with_reducible refine keepN ?_) | (with_reducible refine keepV ?_)))) | go_keep)
          (first | (go_at_call 157; refine (HE.out _).mono ?_; rintro e w2 ⟨rfl, hb2⟩; have d0 : w2.cell? ⟨w.heap.size, 0, none⟩ = some (.int .i64 lo) := (by refine cellB hb2 ?_; (repeat (first | assumption | (with_reducible refine keepD ?_) | (with_reducible refine keepN ?_) | (with_reducible refine keepV ?_)))); have d1 : w2.cell? ⟨w.heap.size, 1, none⟩ = some (.int .i64 hi) := (by refine cellB hb2 ?_; (repeat (first | assumption | (with_reducible refine keepD ?_) | (with_reducible refine keepN ?_) | (with_reducible refine keepV ?_)))); have d2 : w2.cell? ⟨w.heap.size, 2, none⟩ = some (.int .i64 k) := (by refine cellB hb2 ?_; (repeat (first | assumption | (with_reducible refine keepD ?_) | (with_reducible refine keepN ?_) | (with_reducible refine keepV ?_)))); have y0 : w2.cell? ⟨g1, 0, none⟩ = some (.string P0) := (by refine cellB hb2 ?_; (repeat (first | assumption | (with_reducible refine keepD ?_) | (with_reducible refine keepN ?_) | (with_reducible refine keepV ?_)))); have y1 : w2.cell? ⟨g1, 1, none⟩ = some (.string P1) := (by refine cellB hb2 ?_; (repeat (first | assumption | (with_reducible refine keepD ?_) | (with_reducible refine keepN ?_) | (with_reducible refine keepV ?_)))); replace bk : Below w1.heap.size w1 w2 := Below.trans (by repeat (first | (with_reducible assumption) | (with_reducible exact Below.refl _ _) | (with_reducible refine below_drewN ?_ _) | (with_reducible refine Below.drew ?_) | (with_reducible refine Below.alloc ?_ (by first | omega | (simp <;> omega)) _))) (hb2.mono (by have := bk.size; first | omega | (simp <;> omega))); clear hb2))
        go_wp2_with fail
        refine (HS.out _).mono ?_
        rintro e w3 ⟨rfl, hb3⟩
        have d0 : w3.cell? ⟨w.heap.size, 0, none⟩ = some (.int .i64 lo) := cellB hb3 d0
        have d1 : w3.cell? ⟨w.heap.size, 1, none⟩ = some (.int .i64 hi) := cellB hb3 d1
        have d2 : w3.cell? ⟨w.heap.size, 2, none⟩ = some (.int .i64 k) := cellB hb3 d2
        have y0 : w3.cell? ⟨g1, 0, none⟩ = some (.string P0) := cellB hb3 y0
        have y1 : w3.cell? ⟨g1, 1, none⟩ = some (.string P1) := cellB hb3 y1
        replace bk : Below w1.heap.size w1 w3 := bk.trans (hb3.mono bk.size)
        clear hb3
        go_wp2_with (first | (go_at_call 84; refine (worse_any v u hv hu _).mono ?_; rintro e w9 ⟨rfl, rfl⟩; (try rw [HW.out]); refine stop_here ?_))
        unfold Stop
        have HTz : Hid (w3.there (w.heap.size + 1) 0 64) := Lib.hid (there_below HT1.out bk)
        have HBz : Hid (Below w.heap.size w w3) := Lib.hid (B0.out.trans (bk.mono (by omega)))
        go_wp2_with (first | (refine wpList_store_mid rfl 28 (.tmp 4) (.tmp 74) rfl (w.heap.size + 1) 0 (setL false noneB).toArray rfl rfl (by simpa [setL_len] using HTz.out) (infoCS.trans (by simp [setL_len])) (setL_one false noneB) ?_))
        have hfin : (w3.setCells (w.heap.size + 1) 0 (setL false noneB).toArray.toList).rangeAt (w.heap.size + 1) 0 (setL false noneB) := by
          have := World.rangeAt_setCells_same w3 (w.heap.size + 1) 0 (setL false noneB) (by rw [setL_len]; exact HTz.out)
          simpa using this
        have hbel : Below w.heap.size w (w3.setCells (w.heap.size + 1) 0 (setL false noneB).toArray.toList) := below_setCells (by omega) _ _ _ HBz.out
        refine bodyPost_ret (v := .tuple #[.agg (setL false noneB).toArray, .int .i64 0]) ?_ rfl ⟨rfl, hbel⟩
        have e9 : (setL false noneB).toArray.toList = setL false noneB := by simp
        rw [e9] at hfin
        generalize w3.setCells (w.heap.size + 1) 0 _ = W9 at hfin ⊢
        have hlv := run_loadVar_mid (P := Tryz.prog) W9 (w.heap.size + 1) 0 28 (setL false noneB) _ hfin Tryz.underlying28 rfl (infoCS.trans (by rw [setL_len]))
        clear hfin hbel e9 HR1
        generalize (setL false noneB).toArray = V9 at hlv ⊢
        simp [results, Tryz.results148, Act.put, Sem.run_bind, asAddr, hlv]
    · simp at hH0
      subst hH0
      rcases (by omega : low < lo ∨ (lo ≤ low ∧ hi < high) ∨ (lo ≤ low ∧ high ≤ hi ∧ high < low)) with q1 | ⟨q1, q2⟩ | ⟨q1, q2, q3⟩
      · have g1 : decide (low < lo) = true := decide_eq_true q1
        go_enter Tryz.func148, Tryz.ntmps148
        go_wp2_with fail
        have ea : ((w.alloc (.cells #[.int .i64 lo, .int .i64 hi, .int .i64 k] 209)).alloc (.cells (setL false noneB).toArray 28)).heap[w.heap.size]? = some (.cells #[.int .i64 lo, .int .i64 hi, .int .i64 k] 209) := by
          rw [Below.heap_alloc _ _ _ (by simp)]; exact heap_alloc_new w _
        have ez : ((w.alloc (.cells #[.int .i64 lo, .int .i64 hi, .int .i64 k] 209)).alloc (.cells (setL false noneB).toArray 28)).heap[w.heap.size + 1]? = some (.cells (setL false noneB).toArray 28) := by
          have := heap_alloc_new (w.alloc (.cells #[.int .i64 lo, .int .i64 hi, .int .i64 k] 209)) (.cells (setL false noneB).toArray 28)
          rw [show (w.alloc (.cells #[.int .i64 lo, .int .i64 hi, .int .i64 k] 209)).heap.size = w.heap.size + 1 by simp] at this
          exact this
        have hw0 : Below w.heap.size w ((w.alloc (.cells #[.int .i64 lo, .int .i64 hi, .int .i64 k] 209)).alloc (.cells (setL false noneB).toArray 28)) := (by repeat (first | (with_reducible assumption) | (with_reducible exact Below.refl _ _) | (with_reducible refine below_drewN ?_ _) | (with_reducible refine Below.drew ?_) | (with_reducible refine Below.alloc ?_ (by first | omega | (simp <;> omega)) _)))
        have hz0 : ((w.alloc (.cells #[.int .i64 lo, .int .i64 hi, .int .i64 k] 209)).alloc (.cells (setL false noneB).toArray 28)).heap.size = w.heap.size + 2 := by simp
        refine (pieces_any t 47 ht _).mono ?_
        rintro e w1 ⟨v1, rfl, hown1, hb1⟩
        change Below ((w.alloc (.cells #[.int .i64 lo, .int .i64 hi, .int .i64 k] 209)).alloc (.cells (setL false noneB).toArray 28)).heap.size ((w.alloc (.cells #[.int .i64 lo, .int .i64 hi, .int .i64 k] 209)).alloc (.cells (setL false noneB).toArray 28)) w1 at hb1
        generalize (w.alloc (.cells #[.int .i64 lo, .int .i64 hi, .int .i64 k] 209)).alloc (.cells (setL false noneB).toArray 28) = wa at hb1 ea ez hw0 hz0
        have d0 : w1.cell? ⟨w.heap.size, 0, none⟩ = some (.int .i64 lo) := cellB hb1 (cell_of_row _ _ 0 _ _ (0, 0) ea)
        have d1 : w1.cell? ⟨w.heap.size, 1, none⟩ = some (.int .i64 hi) := cellB hb1 (cell_of_row _ _ 1 _ _ (0, 0) ea)
        have d2 : w1.cell? ⟨w.heap.size, 2, none⟩ = some (.int .i64 k) := cellB hb1 (cell_of_row _ _ 2 _ _ (0, 0) ea)
        have HR1 : Hid (w1.rangeAt (w.heap.size + 1) 0 (setL false noneB)) := Lib.hid (rangeAt_below (fun j v hv => by rw [show 0 + j = j by omega, cell_of_row _ _ j _ _ (0, 0) ez]; simpa using hv) hb1)
        have HT1 : Hid (w1.there (w.heap.size + 1) 0 64) := Lib.hid (there_below (fun j hj => by
          constructor
          · rw [cell_of_row _ _ _ _ _ (0, 0) ez]; simp [setL_len]; omega
          · unfold World.frozen?; rw [ez]; simp) hb1)
        have B0 : Hid (Below w.heap.size w w1) := Lib.hid (hw0.trans (hb1.mono hw0.size))
        have hz1 : w.heap.size + 2 ≤ w1.heap.size := by have := hb1.size; omega
        have bk : Below w1.heap.size w1 w1 := Below.refl _ _
        clear hb1 hw0 ea ez hz0
        rw [show ((47 : UInt8).toNat : Int) = 47 from rfl, HC.out] at hown1
        obtain ⟨g1, cap1, rfl, hc1, hm1, hcell1⟩ := own_open hown1 (by simp)
        have y0 : w1.cell? ⟨g1, 0, none⟩ = some (.string P0) := hcell1 0 (by simp)
        have y1 : w1.cell? ⟨g1, 1, none⟩ = some (.string P1) := hcell1 1 (by simp)
        simp only [List.length_cons, List.length_nil, Nat.zero_add, Nat.reduceAdd] at hc1 ⊢
        unfold maxLen at hm1
        clear hown1 hcell1
        go_wp2_with fail
        go_region_held3 (fun w' => w'.cell? ⟨w.heap.size, 0, none⟩ = some (.int .i64 lo) ∧ w'.cell? ⟨w.heap.size, 1, none⟩ = some (.int .i64 hi) ∧ w'.cell? ⟨w.heap.size, 2, none⟩ = some (.int .i64 k) ∧ w'.cell? ⟨g1, 0, none⟩ = some (.string P0) ∧ w'.cell? ⟨g1, 1, none⟩ = some (.string P1)) (first | (refine ⟨?_, ?_, ?_, ?_, ?_⟩ <;> (repeat (first | assumption | (with_reducible refine keepD ?_) | (with_reducible refine keepN ?_) | (with_reducible refine keepV ?_)))) | go_keep)
          (first | (go_at_call 157; refine (HE.out _).mono ?_; rintro e w2 ⟨rfl, hb2⟩; have d0 : w2.cell? ⟨w.heap.size, 0, none⟩ = some (.int .i64 lo) := (by refine cellB hb2 ?_; (repeat (first | assumption | (with_reducible refine keepD ?_) | (with_reducible refine keepN ?_) | (with_reducible refine keepV ?_)))); have d1 : w2.cell? ⟨w.heap.size, 1, none⟩ = some (.int .i64 hi) := (by refine cellB hb2 ?_; (repeat (first | assumption | (with_reducible refine keepD ?_) | (with_reducible refine keepN ?_) | (with_reducible refine keepV ?_)))); have d2 : w2.cell? ⟨w.heap.size, 2, none⟩ = some (.int .i64 k) := (by refine cellB hb2 ?_; (repeat (first | assumption | (with_reducible refine keepD ?_) | (with_reducible refine keepN ?_) | (with_reducible refine keepV ?_)))); have y0 : w2.cell? ⟨g1, 0, none⟩ = some (.string P0) := (by refine cellB hb2 ?_; (repeat (first | assumption | (with_reducible refine keepD ?_) | (with_reducible refine keepN ?_) | (with_reducible refine keepV ?_)))); have y1 : w2.cell? ⟨g1, 1, none⟩ = some (.string P1) := (by refine cellB hb2 ?_; (repeat (first | assumption | (with_reducible refine keepD ?_) | (with_reducible refine keepN ?_) | (with_reducible refine keepV ?_)))); replace bk : Below w1.heap.size w1 w2 := Below.trans (by repeat (first | (with_reducible assumption) | (with_reducible exact Below.refl _ _) | (with_reducible refine below_drewN ?_ _) | (with_reducible refine Below.drew ?_) | (with_reducible refine Below.alloc ?_ (by first | omega | (simp <;> omega)) _))) (hb2.mono (by have := bk.size; first | omega | (simp <;> omega))); clear hb2))
        go_wp2_with fail
        refine (HS.out _).mono ?_
        rintro e w3 ⟨rfl, hb3⟩
        have d0 : w3.cell? ⟨w.heap.size, 0, none⟩ = some (.int .i64 lo) := cellB hb3 d0
        have d1 : w3.cell? ⟨w.heap.size, 1, none⟩ = some (.int .i64 hi) := cellB hb3 d1
        have d2 : w3.cell? ⟨w.heap.size, 2, none⟩ = some (.int .i64 k) := cellB hb3 d2
        have y0 : w3.cell? ⟨g1, 0, none⟩ = some (.string P0) := cellB hb3 y0
        have y1 : w3.cell? ⟨g1, 1, none⟩ = some (.string P1) := cellB hb3 y1
        replace bk : Below w1.heap.size w1 w3 := bk.trans (hb3.mono bk.size)
        clear hb3
        go_wp2_with (first | (go_at_call 84; refine (worse_any v u hv hu _).mono ?_; rintro e w9 ⟨rfl, rfl⟩; (try rw [HW.out]); refine stop_here ?_))
        unfold Stop
        have HTz : Hid (w3.there (w.heap.size + 1) 0 64) := Lib.hid (there_below HT1.out bk)
        have HBz : Hid (Below w.heap.size w w3) := Lib.hid (B0.out.trans (bk.mono (by omega)))
        go_wp2_with (first | (refine wpList_store_mid rfl 28 (.tmp 4) (.tmp 74) rfl (w.heap.size + 1) 0 (setL false noneB).toArray rfl rfl (by simpa [setL_len] using HTz.out) (infoCS.trans (by simp [setL_len])) (setL_one false noneB) ?_))
        have hfin : (w3.setCells (w.heap.size + 1) 0 (setL false noneB).toArray.toList).rangeAt (w.heap.size + 1) 0 (setL false noneB) := by
          have := World.rangeAt_setCells_same w3 (w.heap.size + 1) 0 (setL false noneB) (by rw [setL_len]; exact HTz.out)
          simpa using this
        have hbel : Below w.heap.size w (w3.setCells (w.heap.size + 1) 0 (setL false noneB).toArray.toList) := below_setCells (by omega) _ _ _ HBz.out
        refine bodyPost_ret (v := .tuple #[.agg (setL false noneB).toArray, .int .i64 0]) ?_ rfl ⟨rfl, hbel⟩
        have e9 : (setL false noneB).toArray.toList = setL false noneB := by simp
        rw [e9] at hfin
        generalize w3.setCells (w.heap.size + 1) 0 _ = W9 at hfin ⊢
        have hlv := run_loadVar_mid (P := Tryz.prog) W9 (w.heap.size + 1) 0 28 (setL false noneB) _ hfin Tryz.underlying28 rfl (infoCS.trans (by rw [setL_len]))
        clear hfin hbel e9 HR1
        generalize (setL false noneB).toArray = V9 at hlv ⊢
        simp [results, Tryz.results148, Act.put, Sem.run_bind, asAddr, hlv]
      · have g1 : decide (low < lo) = false := decide_eq_false (by omega)
        have g2 : decide (hi < high) = true := decide_eq_true q2
        go_enter Tryz.func148, Tryz.ntmps148
        go_wp2_with fail
        have ea : ((w.alloc (.cells #[.int .i64 lo, .int .i64 hi, .int .i64 k] 209)).alloc (.cells (setL false noneB).toArray 28)).heap[w.heap.size]? = some (.cells #[.int .i64 lo, .int .i64 hi, .int .i64 k] 209) := by
          rw [Below.heap_alloc _ _ _ (by simp)]; exact heap_alloc_new w _
        have ez : ((w.alloc (.cells #[.int .i64 lo, .int .i64 hi, .int .i64 k] 209)).alloc (.cells (setL false noneB).toArray 28)).heap[w.heap.size + 1]? = some (.cells (setL false noneB).toArray 28) := by
          have := heap_alloc_new (w.alloc (.cells #[.int .i64 lo, .int .i64 hi, .int .i64 k] 209)) (.cells (setL false noneB).toArray 28)
          rw [show (w.alloc (.cells #[.int .i64 lo, .int .i64 hi, .int .i64 k] 209)).heap.size = w.heap.size + 1 by simp] at this
          exact this
        have hw0 : Below w.heap.size w ((w.alloc (.cells #[.int .i64 lo, .int .i64 hi, .int .i64 k] 209)).alloc (.cells (setL false noneB).toArray 28)) := (by repeat (first | (with_reducible assumption) | (with_reducible exact Below.refl _ _) | (with_reducible refine below_drewN ?_ _) | (with_reducible refine Below.drew ?_) | (with_reducible refine Below.alloc ?_ (by first | omega | (simp <;> omega)) _)))
        have hz0 : ((w.alloc (.cells #[.int .i64 lo, .int .i64 hi, .int .i64 k] 209)).alloc (.cells (setL false noneB).toArray 28)).heap.size = w.heap.size + 2 := by simp
        refine (pieces_any t 47 ht _).mono ?_
        rintro e w1 ⟨v1, rfl, hown1, hb1⟩
        change Below ((w.alloc (.cells #[.int .i64 lo, .int .i64 hi, .int .i64 k] 209)).alloc (.cells (setL false noneB).toArray 28)).heap.size ((w.alloc (.cells #[.int .i64 lo, .int .i64 hi, .int .i64 k] 209)).alloc (.cells (setL false noneB).toArray 28)) w1 at hb1
        generalize (w.alloc (.cells #[.int .i64 lo, .int .i64 hi, .int .i64 k] 209)).alloc (.cells (setL false noneB).toArray 28) = wa at hb1 ea ez hw0 hz0
        have d0 : w1.cell? ⟨w.heap.size, 0, none⟩ = some (.int .i64 lo) := cellB hb1 (cell_of_row _ _ 0 _ _ (0, 0) ea)
        have d1 : w1.cell? ⟨w.heap.size, 1, none⟩ = some (.int .i64 hi) := cellB hb1 (cell_of_row _ _ 1 _ _ (0, 0) ea)
        have d2 : w1.cell? ⟨w.heap.size, 2, none⟩ = some (.int .i64 k) := cellB hb1 (cell_of_row _ _ 2 _ _ (0, 0) ea)
        have HR1 : Hid (w1.rangeAt (w.heap.size + 1) 0 (setL false noneB)) := Lib.hid (rangeAt_below (fun j v hv => by rw [show 0 + j = j by omega, cell_of_row _ _ j _ _ (0, 0) ez]; simpa using hv) hb1)
        have HT1 : Hid (w1.there (w.heap.size + 1) 0 64) := Lib.hid (there_below (fun j hj => by
          constructor
          · rw [cell_of_row _ _ _ _ _ (0, 0) ez]; simp [setL_len]; omega
          · unfold World.frozen?; rw [ez]; simp) hb1)
        have B0 : Hid (Below w.heap.size w w1) := Lib.hid (hw0.trans (hb1.mono hw0.size))
        have hz1 : w.heap.size + 2 ≤ w1.heap.size := by have := hb1.size; omega
        have bk : Below w1.heap.size w1 w1 := Below.refl _ _
        clear hb1 hw0 ea ez hz0
        rw [show ((47 : UInt8).toNat : Int) = 47 from rfl, HC.out] at hown1
        obtain ⟨g1, cap1, rfl, hc1, hm1, hcell1⟩ := own_open hown1 (by simp)
        have y0 : w1.cell? ⟨g1, 0, none⟩ = some (.string P0) := hcell1 0 (by simp)
        have y1 : w1.cell? ⟨g1, 1, none⟩ = some (.string P1) := hcell1 1 (by simp)
        simp only [List.length_cons, List.length_nil, Nat.zero_add, Nat.reduceAdd] at hc1 ⊢
        unfold maxLen at hm1
        clear hown1 hcell1
        go_wp2_with fail
        go_region_held3 (fun w' => w'.cell? ⟨w.heap.size, 0, none⟩ = some (.int .i64 lo) ∧ w'.cell? ⟨w.heap.size, 1, none⟩ = some (.int .i64 hi) ∧ w'.cell? ⟨w.heap.size, 2, none⟩ = some (.int .i64 k) ∧ w'.cell? ⟨g1, 0, none⟩ = some (.string P0) ∧ w'.cell? ⟨g1, 1, none⟩ = some (.string P1)) (first | (refine ⟨?_, ?_, ?_, ?_, ?_⟩ <;> (repeat (first | assumption | (with_reducible refine keepD ?_) | (with_reducible refine keepN ?_) | (with_reducible refine keepV ?_)))) | go_keep)
          (first | (go_at_call 157; refine (HE.out _).mono ?_; rintro e w2 ⟨rfl, hb2⟩; have d0 : w2.cell? ⟨w.heap.size, 0, none⟩ = some (.int .i64 lo) := (by refine cellB hb2 ?_; (repeat (first | assumption | (with_reducible refine keepD ?_) | (with_reducible refine keepN ?_) | (with_reducible refine keepV ?_)))); have d1 : w2.cell? ⟨w.heap.size, 1, none⟩ = some (.int .i64 hi) := (by refine cellB hb2 ?_; (repeat (first | assumption | (with_reducible refine keepD ?_) | (with_reducible refine keepN ?_) | (with_reducible refine keepV ?_)))); have d2 : w2.cell? ⟨w.heap.size, 2, none⟩ = some (.int .i64 k) := (by refine cellB hb2 ?_; (repeat (first | assumption | (with_reducible refine keepD ?_) | (with_reducible refine keepN ?_) | (with_reducible refine keepV ?_)))); have y0 : w2.cell? ⟨g1, 0, none⟩ = some (.string P0) := (by refine cellB hb2 ?_; (repeat (first | assumption | (with_reducible refine keepD ?_) | (with_reducible refine keepN ?_) | (with_reducible refine keepV ?_)))); have y1 : w2.cell? ⟨g1, 1, none⟩ = some (.string P1) := (by refine cellB hb2 ?_; (repeat (first | assumption | (with_reducible refine keepD ?_) | (with_reducible refine keepN ?_) | (with_reducible refine keepV ?_)))); replace bk : Below w1.heap.size w1 w2 := Below.trans (by repeat (first | (with_reducible assumption) | (with_reducible exact Below.refl _ _) | (with_reducible refine below_drewN ?_ _) | (with_reducible refine Below.drew ?_) | (with_reducible refine Below.alloc ?_ (by first | omega | (simp <;> omega)) _))) (hb2.mono (by have := bk.size; first | omega | (simp <;> omega))); clear hb2))
        go_wp2_with fail
        refine (HS.out _).mono ?_
        rintro e w3 ⟨rfl, hb3⟩
        have d0 : w3.cell? ⟨w.heap.size, 0, none⟩ = some (.int .i64 lo) := cellB hb3 d0
        have d1 : w3.cell? ⟨w.heap.size, 1, none⟩ = some (.int .i64 hi) := cellB hb3 d1
        have d2 : w3.cell? ⟨w.heap.size, 2, none⟩ = some (.int .i64 k) := cellB hb3 d2
        have y0 : w3.cell? ⟨g1, 0, none⟩ = some (.string P0) := cellB hb3 y0
        have y1 : w3.cell? ⟨g1, 1, none⟩ = some (.string P1) := cellB hb3 y1
        replace bk : Below w1.heap.size w1 w3 := bk.trans (hb3.mono bk.size)
        clear hb3
        go_wp2_with (first | (go_at_call 84; refine (worse_any v u hv hu _).mono ?_; rintro e w9 ⟨rfl, rfl⟩; (try rw [HW.out]); refine stop_here ?_))
        unfold Stop
        have HTz : Hid (w3.there (w.heap.size + 1) 0 64) := Lib.hid (there_below HT1.out bk)
        have HBz : Hid (Below w.heap.size w w3) := Lib.hid (B0.out.trans (bk.mono (by omega)))
        go_wp2_with (first | (refine wpList_store_mid rfl 28 (.tmp 4) (.tmp 74) rfl (w.heap.size + 1) 0 (setL false noneB).toArray rfl rfl (by simpa [setL_len] using HTz.out) (infoCS.trans (by simp [setL_len])) (setL_one false noneB) ?_))
        have hfin : (w3.setCells (w.heap.size + 1) 0 (setL false noneB).toArray.toList).rangeAt (w.heap.size + 1) 0 (setL false noneB) := by
          have := World.rangeAt_setCells_same w3 (w.heap.size + 1) 0 (setL false noneB) (by rw [setL_len]; exact HTz.out)
          simpa using this
        have hbel : Below w.heap.size w (w3.setCells (w.heap.size + 1) 0 (setL false noneB).toArray.toList) := below_setCells (by omega) _ _ _ HBz.out
        refine bodyPost_ret (v := .tuple #[.agg (setL false noneB).toArray, .int .i64 0]) ?_ rfl ⟨rfl, hbel⟩
        have e9 : (setL false noneB).toArray.toList = setL false noneB := by simp
        rw [e9] at hfin
        generalize w3.setCells (w.heap.size + 1) 0 _ = W9 at hfin ⊢
        have hlv := run_loadVar_mid (P := Tryz.prog) W9 (w.heap.size + 1) 0 28 (setL false noneB) _ hfin Tryz.underlying28 rfl (infoCS.trans (by rw [setL_len]))
        clear hfin hbel e9 HR1
        generalize (setL false noneB).toArray = V9 at hlv ⊢
        simp [results, Tryz.results148, Act.put, Sem.run_bind, asAddr, hlv]
      · have g1 : decide (low < lo) = false := decide_eq_false (by omega)
        have g2 : decide (hi < high) = false := decide_eq_false (by omega)
        have g3 : decide (high < low) = true := decide_eq_true q3
        go_enter Tryz.func148, Tryz.ntmps148
        go_wp2_with fail
        have ea : ((w.alloc (.cells #[.int .i64 lo, .int .i64 hi, .int .i64 k] 209)).alloc (.cells (setL false noneB).toArray 28)).heap[w.heap.size]? = some (.cells #[.int .i64 lo, .int .i64 hi, .int .i64 k] 209) := by
          rw [Below.heap_alloc _ _ _ (by simp)]; exact heap_alloc_new w _
        have ez : ((w.alloc (.cells #[.int .i64 lo, .int .i64 hi, .int .i64 k] 209)).alloc (.cells (setL false noneB).toArray 28)).heap[w.heap.size + 1]? = some (.cells (setL false noneB).toArray 28) := by
          have := heap_alloc_new (w.alloc (.cells #[.int .i64 lo, .int .i64 hi, .int .i64 k] 209)) (.cells (setL false noneB).toArray 28)
          rw [show (w.alloc (.cells #[.int .i64 lo, .int .i64 hi, .int .i64 k] 209)).heap.size = w.heap.size + 1 by simp] at this
          exact this
        have hw0 : Below w.heap.size w ((w.alloc (.cells #[.int .i64 lo, .int .i64 hi, .int .i64 k] 209)).alloc (.cells (setL false noneB).toArray 28)) := (by repeat (first | (with_reducible assumption) | (with_reducible exact Below.refl _ _) | (with_reducible refine below_drewN ?_ _) | (with_reducible refine Below.drew ?_) | (with_reducible refine Below.alloc ?_ (by first | omega | (simp <;> omega)) _)))
        have hz0 : ((w.alloc (.cells #[.int .i64 lo, .int .i64 hi, .int .i64 k] 209)).alloc (.cells (setL false noneB).toArray 28)).heap.size = w.heap.size + 2 := by simp
        refine (pieces_any t 47 ht _).mono ?_
        rintro e w1 ⟨v1, rfl, hown1, hb1⟩
        change Below ((w.alloc (.cells #[.int .i64 lo, .int .i64 hi, .int .i64 k] 209)).alloc (.cells (setL false noneB).toArray 28)).heap.size ((w.alloc (.cells #[.int .i64 lo, .int .i64 hi, .int .i64 k] 209)).alloc (.cells (setL false noneB).toArray 28)) w1 at hb1
        generalize (w.alloc (.cells #[.int .i64 lo, .int .i64 hi, .int .i64 k] 209)).alloc (.cells (setL false noneB).toArray 28) = wa at hb1 ea ez hw0 hz0
        have d0 : w1.cell? ⟨w.heap.size, 0, none⟩ = some (.int .i64 lo) := cellB hb1 (cell_of_row _ _ 0 _ _ (0, 0) ea)
        have d1 : w1.cell? ⟨w.heap.size, 1, none⟩ = some (.int .i64 hi) := cellB hb1 (cell_of_row _ _ 1 _ _ (0, 0) ea)
        have d2 : w1.cell? ⟨w.heap.size, 2, none⟩ = some (.int .i64 k) := cellB hb1 (cell_of_row _ _ 2 _ _ (0, 0) ea)
        have HR1 : Hid (w1.rangeAt (w.heap.size + 1) 0 (setL false noneB)) := Lib.hid (rangeAt_below (fun j v hv => by rw [show 0 + j = j by omega, cell_of_row _ _ j _ _ (0, 0) ez]; simpa using hv) hb1)
        have HT1 : Hid (w1.there (w.heap.size + 1) 0 64) := Lib.hid (there_below (fun j hj => by
          constructor
          · rw [cell_of_row _ _ _ _ _ (0, 0) ez]; simp [setL_len]; omega
          · unfold World.frozen?; rw [ez]; simp) hb1)
        have B0 : Hid (Below w.heap.size w w1) := Lib.hid (hw0.trans (hb1.mono hw0.size))
        have hz1 : w.heap.size + 2 ≤ w1.heap.size := by have := hb1.size; omega
        have bk : Below w1.heap.size w1 w1 := Below.refl _ _
        clear hb1 hw0 ea ez hz0
        rw [show ((47 : UInt8).toNat : Int) = 47 from rfl, HC.out] at hown1
        obtain ⟨g1, cap1, rfl, hc1, hm1, hcell1⟩ := own_open hown1 (by simp)
        have y0 : w1.cell? ⟨g1, 0, none⟩ = some (.string P0) := hcell1 0 (by simp)
        have y1 : w1.cell? ⟨g1, 1, none⟩ = some (.string P1) := hcell1 1 (by simp)
        simp only [List.length_cons, List.length_nil, Nat.zero_add, Nat.reduceAdd] at hc1 ⊢
        unfold maxLen at hm1
        clear hown1 hcell1
        go_wp2_with fail
        go_region_held3 (fun w' => w'.cell? ⟨w.heap.size, 0, none⟩ = some (.int .i64 lo) ∧ w'.cell? ⟨w.heap.size, 1, none⟩ = some (.int .i64 hi) ∧ w'.cell? ⟨w.heap.size, 2, none⟩ = some (.int .i64 k) ∧ w'.cell? ⟨g1, 0, none⟩ = some (.string P0) ∧ w'.cell? ⟨g1, 1, none⟩ = some (.string P1)) (first | (refine ⟨?_, ?_, ?_, ?_, ?_⟩ <;> (repeat (first | assumption | (with_reducible refine keepD ?_) | (with_reducible refine keepN ?_) | (with_reducible refine keepV ?_)))) | go_keep)
          (first | (go_at_call 157; refine (HE.out _).mono ?_; rintro e w2 ⟨rfl, hb2⟩; have d0 : w2.cell? ⟨w.heap.size, 0, none⟩ = some (.int .i64 lo) := (by refine cellB hb2 ?_; (repeat (first | assumption | (with_reducible refine keepD ?_) | (with_reducible refine keepN ?_) | (with_reducible refine keepV ?_)))); have d1 : w2.cell? ⟨w.heap.size, 1, none⟩ = some (.int .i64 hi) := (by refine cellB hb2 ?_; (repeat (first | assumption | (with_reducible refine keepD ?_) | (with_reducible refine keepN ?_) | (with_reducible refine keepV ?_)))); have d2 : w2.cell? ⟨w.heap.size, 2, none⟩ = some (.int .i64 k) := (by refine cellB hb2 ?_; (repeat (first | assumption | (with_reducible refine keepD ?_) | (with_reducible refine keepN ?_) | (with_reducible refine keepV ?_)))); have y0 : w2.cell? ⟨g1, 0, none⟩ = some (.string P0) := (by refine cellB hb2 ?_; (repeat (first | assumption | (with_reducible refine keepD ?_) | (with_reducible refine keepN ?_) | (with_reducible refine keepV ?_)))); have y1 : w2.cell? ⟨g1, 1, none⟩ = some (.string P1) := (by refine cellB hb2 ?_; (repeat (first | assumption | (with_reducible refine keepD ?_) | (with_reducible refine keepN ?_) | (with_reducible refine keepV ?_)))); replace bk : Below w1.heap.size w1 w2 := Below.trans (by repeat (first | (with_reducible assumption) | (with_reducible exact Below.refl _ _) | (with_reducible refine below_drewN ?_ _) | (with_reducible refine Below.drew ?_) | (with_reducible refine Below.alloc ?_ (by first | omega | (simp <;> omega)) _))) (hb2.mono (by have := bk.size; first | omega | (simp <;> omega))); clear hb2))
        go_wp2_with fail
        refine (HS.out _).mono ?_
        rintro e w3 ⟨rfl, hb3⟩
        have d0 : w3.cell? ⟨w.heap.size, 0, none⟩ = some (.int .i64 lo) := cellB hb3 d0
        have d1 : w3.cell? ⟨w.heap.size, 1, none⟩ = some (.int .i64 hi) := cellB hb3 d1
        have d2 : w3.cell? ⟨w.heap.size, 2, none⟩ = some (.int .i64 k) := cellB hb3 d2
        have y0 : w3.cell? ⟨g1, 0, none⟩ = some (.string P0) := cellB hb3 y0
        have y1 : w3.cell? ⟨g1, 1, none⟩ = some (.string P1) := cellB hb3 y1
        replace bk : Below w1.heap.size w1 w3 := bk.trans (hb3.mono bk.size)
        clear hb3
        go_wp2_with (first | (go_at_call 84; refine (worse_any v u hv hu _).mono ?_; rintro e w9 ⟨rfl, rfl⟩; (try rw [HW.out]); refine stop_here ?_))
        unfold Stop
        have HTz : Hid (w3.there (w.heap.size + 1) 0 64) := Lib.hid (there_below HT1.out bk)
        have HBz : Hid (Below w.heap.size w w3) := Lib.hid (B0.out.trans (bk.mono (by omega)))
        go_wp2_with (first | (refine wpList_store_mid rfl 28 (.tmp 4) (.tmp 74) rfl (w.heap.size + 1) 0 (setL false noneB).toArray rfl rfl (by simpa [setL_len] using HTz.out) (infoCS.trans (by simp [setL_len])) (setL_one false noneB) ?_))
        have hfin : (w3.setCells (w.heap.size + 1) 0 (setL false noneB).toArray.toList).rangeAt (w.heap.size + 1) 0 (setL false noneB) := by
          have := World.rangeAt_setCells_same w3 (w.heap.size + 1) 0 (setL false noneB) (by rw [setL_len]; exact HTz.out)
          simpa using this
        have hbel : Below w.heap.size w (w3.setCells (w.heap.size + 1) 0 (setL false noneB).toArray.toList) := below_setCells (by omega) _ _ _ HBz.out
        refine bodyPost_ret (v := .tuple #[.agg (setL false noneB).toArray, .int .i64 0]) ?_ rfl ⟨rfl, hbel⟩
        have e9 : (setL false noneB).toArray.toList = setL false noneB := by simp
        rw [e9] at hfin
        generalize w3.setCells (w.heap.size + 1) 0 _ = W9 at hfin ⊢
        have hlv := run_loadVar_mid (P := Tryz.prog) W9 (w.heap.size + 1) 0 28 (setL false noneB) _ hfin Tryz.underlying28 rfl (infoCS.trans (by rw [setL_len]))
        clear hfin hbel e9 HR1
        generalize (setL false noneB).toArray = V9 at hlv ⊢
        simp [results, Tryz.results148, Act.put, Sem.run_bind, asAddr, hlv]
  · cases st
    · simp at hH0
      subst hH0
      rcases (by omega : low < lo ∨ (lo ≤ low ∧ high < low)) with q1 | ⟨q1, q3⟩
      · have g1 : decide (low < lo) = true := decide_eq_true q1
        go_enter Tryz.func148, Tryz.ntmps148
        go_wp2_with fail
        have ea : ((w.alloc (.cells #[.int .i64 lo, .int .i64 high, .int .i64 k] 209)).alloc (.cells (setL false noneB).toArray 28)).heap[w.heap.size]? = some (.cells #[.int .i64 lo, .int .i64 high, .int .i64 k] 209) := by
          rw [Below.heap_alloc _ _ _ (by simp)]; exact heap_alloc_new w _
        have ez : ((w.alloc (.cells #[.int .i64 lo, .int .i64 high, .int .i64 k] 209)).alloc (.cells (setL false noneB).toArray 28)).heap[w.heap.size + 1]? = some (.cells (setL false noneB).toArray 28) := by
          have := heap_alloc_new (w.alloc (.cells #[.int .i64 lo, .int .i64 high, .int .i64 k] 209)) (.cells (setL false noneB).toArray 28)
          rw [show (w.alloc (.cells #[.int .i64 lo, .int .i64 high, .int .i64 k] 209)).heap.size = w.heap.size + 1 by simp] at this
          exact this
        have hw0 : Below w.heap.size w ((w.alloc (.cells #[.int .i64 lo, .int .i64 high, .int .i64 k] 209)).alloc (.cells (setL false noneB).toArray 28)) := (by repeat (first | (with_reducible assumption) | (with_reducible exact Below.refl _ _) | (with_reducible refine below_drewN ?_ _) | (with_reducible refine Below.drew ?_) | (with_reducible refine Below.alloc ?_ (by first | omega | (simp <;> omega)) _)))
        have hz0 : ((w.alloc (.cells #[.int .i64 lo, .int .i64 high, .int .i64 k] 209)).alloc (.cells (setL false noneB).toArray 28)).heap.size = w.heap.size + 2 := by simp
        refine (pieces_any t 47 ht _).mono ?_
        rintro e w1 ⟨v1, rfl, hown1, hb1⟩
        change Below ((w.alloc (.cells #[.int .i64 lo, .int .i64 high, .int .i64 k] 209)).alloc (.cells (setL false noneB).toArray 28)).heap.size ((w.alloc (.cells #[.int .i64 lo, .int .i64 high, .int .i64 k] 209)).alloc (.cells (setL false noneB).toArray 28)) w1 at hb1
        generalize (w.alloc (.cells #[.int .i64 lo, .int .i64 high, .int .i64 k] 209)).alloc (.cells (setL false noneB).toArray 28) = wa at hb1 ea ez hw0 hz0
        have d0 : w1.cell? ⟨w.heap.size, 0, none⟩ = some (.int .i64 lo) := cellB hb1 (cell_of_row _ _ 0 _ _ (0, 0) ea)
        have d1 : w1.cell? ⟨w.heap.size, 1, none⟩ = some (.int .i64 high) := cellB hb1 (cell_of_row _ _ 1 _ _ (0, 0) ea)
        have d2 : w1.cell? ⟨w.heap.size, 2, none⟩ = some (.int .i64 k) := cellB hb1 (cell_of_row _ _ 2 _ _ (0, 0) ea)
        have HR1 : Hid (w1.rangeAt (w.heap.size + 1) 0 (setL false noneB)) := Lib.hid (rangeAt_below (fun j v hv => by rw [show 0 + j = j by omega, cell_of_row _ _ j _ _ (0, 0) ez]; simpa using hv) hb1)
        have HT1 : Hid (w1.there (w.heap.size + 1) 0 64) := Lib.hid (there_below (fun j hj => by
          constructor
          · rw [cell_of_row _ _ _ _ _ (0, 0) ez]; simp [setL_len]; omega
          · unfold World.frozen?; rw [ez]; simp) hb1)
        have B0 : Hid (Below w.heap.size w w1) := Lib.hid (hw0.trans (hb1.mono hw0.size))
        have hz1 : w.heap.size + 2 ≤ w1.heap.size := by have := hb1.size; omega
        have bk : Below w1.heap.size w1 w1 := Below.refl _ _
        clear hb1 hw0 ea ez hz0
        rw [show ((47 : UInt8).toNat : Int) = 47 from rfl, HC.out] at hown1
        obtain ⟨g1, cap1, rfl, hc1, hm1, hcell1⟩ := own_open hown1 (by simp)
        have y0 : w1.cell? ⟨g1, 0, none⟩ = some (.string P0) := hcell1 0 (by simp)
        have y1 : w1.cell? ⟨g1, 1, none⟩ = some (.string P1) := hcell1 1 (by simp)
        simp only [List.length_cons, List.length_nil, Nat.zero_add, Nat.reduceAdd] at hc1 ⊢
        unfold maxLen at hm1
        clear hown1 hcell1
        go_wp2_with fail
        go_region_held3 (fun w' => w'.cell? ⟨w.heap.size, 0, none⟩ = some (.int .i64 lo) ∧ w'.cell? ⟨w.heap.size, 1, none⟩ = some (.int .i64 high) ∧ w'.cell? ⟨w.heap.size, 2, none⟩ = some (.int .i64 k) ∧ w'.cell? ⟨g1, 0, none⟩ = some (.string P0) ∧ w'.cell? ⟨g1, 1, none⟩ = some (.string P1)) (first | (refine ⟨?_, ?_, ?_, ?_, ?_⟩ <;> (repeat (first | assumption | (with_reducible refine keepD ?_) | (with_reducible refine keepN ?_) | (with_reducible refine keepV ?_)))) | go_keep)
          (first | (go_at_call 157; refine (HE.out _).mono ?_; rintro e w2 ⟨rfl, hb2⟩; have d0 : w2.cell? ⟨w.heap.size, 0, none⟩ = some (.int .i64 lo) := (by refine cellB hb2 ?_; (repeat (first | assumption | (with_reducible refine keepD ?_) | (with_reducible refine keepN ?_) | (with_reducible refine keepV ?_)))); have d1 : w2.cell? ⟨w.heap.size, 1, none⟩ = some (.int .i64 high) := (by refine cellB hb2 ?_; (repeat (first | assumption | (with_reducible refine keepD ?_) | (with_reducible refine keepN ?_) | (with_reducible refine keepV ?_)))); have d2 : w2.cell? ⟨w.heap.size, 2, none⟩ = some (.int .i64 k) := (by refine cellB hb2 ?_; (repeat (first | assumption | (with_reducible refine keepD ?_) | (with_reducible refine keepN ?_) | (with_reducible refine keepV ?_)))); have y0 : w2.cell? ⟨g1, 0, none⟩ = some (.string P0) := (by refine cellB hb2 ?_; (repeat (first | assumption | (with_reducible refine keepD ?_) | (with_reducible refine keepN ?_) | (with_reducible refine keepV ?_)))); have y1 : w2.cell? ⟨g1, 1, none⟩ = some (.string P1) := (by refine cellB hb2 ?_; (repeat (first | assumption | (with_reducible refine keepD ?_) | (with_reducible refine keepN ?_) | (with_reducible refine keepV ?_)))); replace bk : Below w1.heap.size w1 w2 := Below.trans (by repeat (first | (with_reducible assumption) | (with_reducible exact Below.refl _ _) | (with_reducible refine below_drewN ?_ _) | (with_reducible refine Below.drew ?_) | (with_reducible refine Below.alloc ?_ (by first | omega | (simp <;> omega)) _))) (hb2.mono (by have := bk.size; first | omega | (simp <;> omega))); clear hb2))
        go_wp2_with fail
        refine (HS.out _).mono ?_
        rintro e w3 ⟨rfl, hb3⟩
        have d0 : w3.cell? ⟨w.heap.size, 0, none⟩ = some (.int .i64 lo) := cellB hb3 d0
        have d1 : w3.cell? ⟨w.heap.size, 1, none⟩ = some (.int .i64 high) := cellB hb3 d1
        have d2 : w3.cell? ⟨w.heap.size, 2, none⟩ = some (.int .i64 k) := cellB hb3 d2
        have y0 : w3.cell? ⟨g1, 0, none⟩ = some (.string P0) := cellB hb3 y0
        have y1 : w3.cell? ⟨g1, 1, none⟩ = some (.string P1) := cellB hb3 y1
        replace bk : Below w1.heap.size w1 w3 := bk.trans (hb3.mono bk.size)
        clear hb3
        go_wp2_with (first | (go_at_call 84; refine (worse_any v u hv hu _).mono ?_; rintro e w9 ⟨rfl, rfl⟩; (try rw [HW.out]); refine stop_here ?_))
        unfold Stop
        have HTz : Hid (w3.there (w.heap.size + 1) 0 64) := Lib.hid (there_below HT1.out bk)
        have HBz : Hid (Below w.heap.size w w3) := Lib.hid (B0.out.trans (bk.mono (by omega)))
        go_wp2_with (first | (refine wpList_store_mid rfl 28 (.tmp 4) (.tmp 74) rfl (w.heap.size + 1) 0 (setL false noneB).toArray rfl rfl (by simpa [setL_len] using HTz.out) (infoCS.trans (by simp [setL_len])) (setL_one false noneB) ?_))
        have hfin : (w3.setCells (w.heap.size + 1) 0 (setL false noneB).toArray.toList).rangeAt (w.heap.size + 1) 0 (setL false noneB) := by
          have := World.rangeAt_setCells_same w3 (w.heap.size + 1) 0 (setL false noneB) (by rw [setL_len]; exact HTz.out)
          simpa using this
        have hbel : Below w.heap.size w (w3.setCells (w.heap.size + 1) 0 (setL false noneB).toArray.toList) := below_setCells (by omega) _ _ _ HBz.out
        refine bodyPost_ret (v := .tuple #[.agg (setL false noneB).toArray, .int .i64 0]) ?_ rfl ⟨rfl, hbel⟩
        have e9 : (setL false noneB).toArray.toList = setL false noneB := by simp
        rw [e9] at hfin
        generalize w3.setCells (w.heap.size + 1) 0 _ = W9 at hfin ⊢
        have hlv := run_loadVar_mid (P := Tryz.prog) W9 (w.heap.size + 1) 0 28 (setL false noneB) _ hfin Tryz.underlying28 rfl (infoCS.trans (by rw [setL_len]))
        clear hfin hbel e9 HR1
        generalize (setL false noneB).toArray = V9 at hlv ⊢
        simp [results, Tryz.results148, Act.put, Sem.run_bind, asAddr, hlv]
      · have g1 : decide (low < lo) = false := decide_eq_false (by omega)
        have g2 : decide (high < high) = false := decide_eq_false (by omega)
        have g3 : decide (high < low) = true := decide_eq_true q3
        go_enter Tryz.func148, Tryz.ntmps148
        go_wp2_with fail
        have ea : ((w.alloc (.cells #[.int .i64 lo, .int .i64 high, .int .i64 k] 209)).alloc (.cells (setL false noneB).toArray 28)).heap[w.heap.size]? = some (.cells #[.int .i64 lo, .int .i64 high, .int .i64 k] 209) := by
          rw [Below.heap_alloc _ _ _ (by simp)]; exact heap_alloc_new w _
        have ez : ((w.alloc (.cells #[.int .i64 lo, .int .i64 high, .int .i64 k] 209)).alloc (.cells (setL false noneB).toArray 28)).heap[w.heap.size + 1]? = some (.cells (setL false noneB).toArray 28) := by
          have := heap_alloc_new (w.alloc (.cells #[.int .i64 lo, .int .i64 high, .int .i64 k] 209)) (.cells (setL false noneB).toArray 28)
          rw [show (w.alloc (.cells #[.int .i64 lo, .int .i64 high, .int .i64 k] 209)).heap.size = w.heap.size + 1 by simp] at this
          exact this
        have hw0 : Below w.heap.size w ((w.alloc (.cells #[.int .i64 lo, .int .i64 high, .int .i64 k] 209)).alloc (.cells (setL false noneB).toArray 28)) := (by repeat (first | (with_reducible assumption) | (with_reducible exact Below.refl _ _) | (with_reducible refine below_drewN ?_ _) | (with_reducible refine Below.drew ?_) | (with_reducible refine Below.alloc ?_ (by first | omega | (simp <;> omega)) _)))
        have hz0 : ((w.alloc (.cells #[.int .i64 lo, .int .i64 high, .int .i64 k] 209)).alloc (.cells (setL false noneB).toArray 28)).heap.size = w.heap.size + 2 := by simp
        refine (pieces_any t 47 ht _).mono ?_
        rintro e w1 ⟨v1, rfl, hown1, hb1⟩
        change Below ((w.alloc (.cells #[.int .i64 lo, .int .i64 high, .int .i64 k] 209)).alloc (.cells (setL false noneB).toArray 28)).heap.size ((w.alloc (.cells #[.int .i64 lo, .int .i64 high, .int .i64 k] 209)).alloc (.cells (setL false noneB).toArray 28)) w1 at hb1
        generalize (w.alloc (.cells #[.int .i64 lo, .int .i64 high, .int .i64 k] 209)).alloc (.cells (setL false noneB).toArray 28) = wa at hb1 ea ez hw0 hz0
        have d0 : w1.cell? ⟨w.heap.size, 0, none⟩ = some (.int .i64 lo) := cellB hb1 (cell_of_row _ _ 0 _ _ (0, 0) ea)
        have d1 : w1.cell? ⟨w.heap.size, 1, none⟩ = some (.int .i64 high) := cellB hb1 (cell_of_row _ _ 1 _ _ (0, 0) ea)
        have d2 : w1.cell? ⟨w.heap.size, 2, none⟩ = some (.int .i64 k) := cellB hb1 (cell_of_row _ _ 2 _ _ (0, 0) ea)
        have HR1 : Hid (w1.rangeAt (w.heap.size + 1) 0 (setL false noneB)) := Lib.hid (rangeAt_below (fun j v hv => by rw [show 0 + j = j by omega, cell_of_row _ _ j _ _ (0, 0) ez]; simpa using hv) hb1)
        have HT1 : Hid (w1.there (w.heap.size + 1) 0 64) := Lib.hid (there_below (fun j hj => by
          constructor
          · rw [cell_of_row _ _ _ _ _ (0, 0) ez]; simp [setL_len]; omega
          · unfold World.frozen?; rw [ez]; simp) hb1)
        have B0 : Hid (Below w.heap.size w w1) := Lib.hid (hw0.trans (hb1.mono hw0.size))
        have hz1 : w.heap.size + 2 ≤ w1.heap.size := by have := hb1.size; omega
        have bk : Below w1.heap.size w1 w1 := Below.refl _ _
        clear hb1 hw0 ea ez hz0
        rw [show ((47 : UInt8).toNat : Int) = 47 from rfl, HC.out] at hown1
        obtain ⟨g1, cap1, rfl, hc1, hm1, hcell1⟩ := own_open hown1 (by simp)
        have y0 : w1.cell? ⟨g1, 0, none⟩ = some (.string P0) := hcell1 0 (by simp)
        have y1 : w1.cell? ⟨g1, 1, none⟩ = some (.string P1) := hcell1 1 (by simp)
        simp only [List.length_cons, List.length_nil, Nat.zero_add, Nat.reduceAdd] at hc1 ⊢
        unfold maxLen at hm1
        clear hown1 hcell1
        go_wp2_with fail
        go_region_held3 (fun w' => w'.cell? ⟨w.heap.size, 0, none⟩ = some (.int .i64 lo) ∧ w'.cell? ⟨w.heap.size, 1, none⟩ = some (.int .i64 high) ∧ w'.cell? ⟨w.heap.size, 2, none⟩ = some (.int .i64 k) ∧ w'.cell? ⟨g1, 0, none⟩ = some (.string P0) ∧ w'.cell? ⟨g1, 1, none⟩ = some (.string P1)) (first | (refine ⟨?_, ?_, ?_, ?_, ?_⟩ <;> (repeat (first | assumption | (with_reducible refine keepD ?_) | (with_reducible refine keepN ?_) | (with_reducible refine keepV ?_)))) | go_keep)
          (first | (go_at_call 157; refine (HE.out _).mono ?_; rintro e w2 ⟨rfl, hb2⟩; have d0 : w2.cell? ⟨w.heap.size, 0, none⟩ = some (.int .i64 lo) := (by refine cellB hb2 ?_; (repeat (first | assumption | (with_reducible refine keepD ?_) | (with_reducible refine keepN ?_) | (with_reducible refine keepV ?_)))); have d1 : w2.cell? ⟨w.heap.size, 1, none⟩ = some (.int .i64 high) := (by refine cellB hb2 ?_; (repeat (first | assumption | (with_reducible refine keepD ?_) | (with_reducible refine keepN ?_) | (with_reducible refine keepV ?_)))); have d2 : w2.cell? ⟨w.heap.size, 2, none⟩ = some (.int .i64 k) := (by refine cellB hb2 ?_; (repeat (first | assumption | (with_reducible refine keepD ?_) | (with_reducible refine keepN ?_) | (with_reducible refine keepV ?_)))); have y0 : w2.cell? ⟨g1, 0, none⟩ = some (.string P0) := (by refine cellB hb2 ?_; (repeat (first | assumption | (with_reducible refine keepD ?_) | (with_reducible refine keepN ?_) | (with_reducible refine keepV ?_)))); have y1 : w2.cell? ⟨g1, 1, none⟩ = some (.string P1) := (by refine cellB hb2 ?_; (repeat (first | assumption | (with_reducible refine keepD ?_) | (with_reducible refine keepN ?_) | (with_reducible refine keepV ?_)))); replace bk : Below w1.heap.size w1 w2 := Below.trans (by repeat (first | (with_reducible assumption) | (with_reducible exact Below.refl _ _) | (with_reducible refine below_drewN ?_ _) | (with_reducible refine Below.drew ?_) | (with_reducible refine Below.alloc ?_ (by first | omega | (simp <;> omega)) _))) (hb2.mono (by have := bk.size; first | omega | (simp <;> omega))); clear hb2))
        go_wp2_with fail
        refine (HS.out _).mono ?_
        rintro e w3 ⟨rfl, hb3⟩
        have d0 : w3.cell? ⟨w.heap.size, 0, none⟩ = some (.int .i64 lo) := cellB hb3 d0
        have d1 : w3.cell? ⟨w.heap.size, 1, none⟩ = some (.int .i64 high) := cellB hb3 d1
        have d2 : w3.cell? ⟨w.heap.size, 2, none⟩ = some (.int .i64 k) := cellB hb3 d2
        have y0 : w3.cell? ⟨g1, 0, none⟩ = some (.string P0) := cellB hb3 y0
        have y1 : w3.cell? ⟨g1, 1, none⟩ = some (.string P1) := cellB hb3 y1
        replace bk : Below w1.heap.size w1 w3 := bk.trans (hb3.mono bk.size)
        clear hb3
        go_wp2_with (first | (go_at_call 84; refine (worse_any v u hv hu _).mono ?_; rintro e w9 ⟨rfl, rfl⟩; (try rw [HW.out]); refine stop_here ?_))
        unfold Stop
        have HTz : Hid (w3.there (w.heap.size + 1) 0 64) := Lib.hid (there_below HT1.out bk)
        have HBz : Hid (Below w.heap.size w w3) := Lib.hid (B0.out.trans (bk.mono (by omega)))
        go_wp2_with (first | (refine wpList_store_mid rfl 28 (.tmp 4) (.tmp 74) rfl (w.heap.size + 1) 0 (setL false noneB).toArray rfl rfl (by simpa [setL_len] using HTz.out) (infoCS.trans (by simp [setL_len])) (setL_one false noneB) ?_))
        have hfin : (w3.setCells (w.heap.size + 1) 0 (setL false noneB).toArray.toList).rangeAt (w.heap.size + 1) 0 (setL false noneB) := by
          have := World.rangeAt_setCells_same w3 (w.heap.size + 1) 0 (setL false noneB) (by rw [setL_len]; exact HTz.out)
          simpa using this
        have hbel : Below w.heap.size w (w3.setCells (w.heap.size + 1) 0 (setL false noneB).toArray.toList) := below_setCells (by omega) _ _ _ HBz.out
        refine bodyPost_ret (v := .tuple #[.agg (setL false noneB).toArray, .int .i64 0]) ?_ rfl ⟨rfl, hbel⟩
        have e9 : (setL false noneB).toArray.toList = setL false noneB := by simp
        rw [e9] at hfin
        generalize w3.setCells (w.heap.size + 1) 0 _ = W9 at hfin ⊢
        have hlv := run_loadVar_mid (P := Tryz.prog) W9 (w.heap.size + 1) 0 28 (setL false noneB) _ hfin Tryz.underlying28 rfl (infoCS.trans (by rw [setL_len]))
        clear hfin hbel e9 HR1
        generalize (setL false noneB).toArray = V9 at hlv ⊢
        simp [results, Tryz.results148, Act.put, Sem.run_bind, asAddr, hlv]
    · simp at hH0
      subst hH0
      rcases (by omega : low < lo ∨ (lo ≤ low ∧ hi < high) ∨ (lo ≤ low ∧ high ≤ hi ∧ high < low)) with q1 | ⟨q1, q2⟩ | ⟨q1, q2, q3⟩
      · have g1 : decide (low < lo) = true := decide_eq_true q1
        go_enter Tryz.func148, Tryz.ntmps148
        go_wp2_with fail
        have ea : ((w.alloc (.cells #[.int .i64 lo, .int .i64 hi, .int .i64 k] 209)).alloc (.cells (setL false noneB).toArray 28)).heap[w.heap.size]? = some (.cells #[.int .i64 lo, .int .i64 hi, .int .i64 k] 209) := by
          rw [Below.heap_alloc _ _ _ (by simp)]; exact heap_alloc_new w _
        have ez : ((w.alloc (.cells #[.int .i64 lo, .int .i64 hi, .int .i64 k] 209)).alloc (.cells (setL false noneB).toArray 28)).heap[w.heap.size + 1]? = some (.cells (setL false noneB).toArray 28) := by
          have := heap_alloc_new (w.alloc (.cells #[.int .i64 lo, .int .i64 hi, .int .i64 k] 209)) (.cells (setL false noneB).toArray 28)
          rw [show (w.alloc (.cells #[.int .i64 lo, .int .i64 hi, .int .i64 k] 209)).heap.size = w.heap.size + 1 by simp] at this
          exact this
        have hw0 : Below w.heap.size w ((w.alloc (.cells #[.int .i64 lo, .int .i64 hi, .int .i64 k] 209)).alloc (.cells (setL false noneB).toArray 28)) := (by repeat (first | (with_reducible assumption) | (with_reducible exact Below.refl _ _) | (with_reducible refine below_drewN ?_ _) | (with_reducible refine Below.drew ?_) | (with_reducible refine Below.alloc ?_ (by first | omega | (simp <;> omega)) _)))
        have hz0 : ((w.alloc (.cells #[.int .i64 lo, .int .i64 hi, .int .i64 k] 209)).alloc (.cells (setL false noneB).toArray 28)).heap.size = w.heap.size + 2 := by simp
        refine (pieces_any t 47 ht _).mono ?_
        rintro e w1 ⟨v1, rfl, hown1, hb1⟩
        change Below ((w.alloc (.cells #[.int .i64 lo, .int .i64 hi, .int .i64 k] 209)).alloc (.cells (setL false noneB).toArray 28)).heap.size ((w.alloc (.cells #[.int .i64 lo, .int .i64 hi, .int .i64 k] 209)).alloc (.cells (setL false noneB).toArray 28)) w1 at hb1
        generalize (w.alloc (.cells #[.int .i64 lo, .int .i64 hi, .int .i64 k] 209)).alloc (.cells (setL false noneB).toArray 28) = wa at hb1 ea ez hw0 hz0
        have d0 : w1.cell? ⟨w.heap.size, 0, none⟩ = some (.int .i64 lo) := cellB hb1 (cell_of_row _ _ 0 _ _ (0, 0) ea)
        have d1 : w1.cell? ⟨w.heap.size, 1, none⟩ = some (.int .i64 hi) := cellB hb1 (cell_of_row _ _ 1 _ _ (0, 0) ea)
        have d2 : w1.cell? ⟨w.heap.size, 2, none⟩ = some (.int .i64 k) := cellB hb1 (cell_of_row _ _ 2 _ _ (0, 0) ea)
        have HR1 : Hid (w1.rangeAt (w.heap.size + 1) 0 (setL false noneB)) := Lib.hid (rangeAt_below (fun j v hv => by rw [show 0 + j = j by omega, cell_of_row _ _ j _ _ (0, 0) ez]; simpa using hv) hb1)
        have HT1 : Hid (w1.there (w.heap.size + 1) 0 64) := Lib.hid (there_below (fun j hj => by
          constructor
          · rw [cell_of_row _ _ _ _ _ (0, 0) ez]; simp [setL_len]; omega
          · unfold World.frozen?; rw [ez]; simp) hb1)
        have B0 : Hid (Below w.heap.size w w1) := Lib.hid (hw0.trans (hb1.mono hw0.size))
        have hz1 : w.heap.size + 2 ≤ w1.heap.size := by have := hb1.size; omega
        have bk : Below w1.heap.size w1 w1 := Below.refl _ _
        clear hb1 hw0 ea ez hz0
        rw [show ((47 : UInt8).toNat : Int) = 47 from rfl, HC.out] at hown1
        obtain ⟨g1, cap1, rfl, hc1, hm1, hcell1⟩ := own_open hown1 (by simp)
        have y0 : w1.cell? ⟨g1, 0, none⟩ = some (.string P0) := hcell1 0 (by simp)
        have y1 : w1.cell? ⟨g1, 1, none⟩ = some (.string P1) := hcell1 1 (by simp)
        simp only [List.length_cons, List.length_nil, Nat.zero_add, Nat.reduceAdd] at hc1 ⊢
        unfold maxLen at hm1
        clear hown1 hcell1
        go_wp2_with fail
        go_region_held3 (fun w' => w'.cell? ⟨w.heap.size, 0, none⟩ = some (.int .i64 lo) ∧ w'.cell? ⟨w.heap.size, 1, none⟩ = some (.int .i64 hi) ∧ w'.cell? ⟨w.heap.size, 2, none⟩ = some (.int .i64 k) ∧ w'.cell? ⟨g1, 0, none⟩ = some (.string P0) ∧ w'.cell? ⟨g1, 1, none⟩ = some (.string P1)) (first | (refine ⟨?_, ?_, ?_, ?_, ?_⟩ <;> (repeat (first | assumption | (with_reducible refine keepD ?_) | (with_reducible refine keepN ?_) | (with_reducible refine keepV ?_)))) | go_keep)
          (first | (go_at_call 157; refine (HE.out _).mono ?_; rintro e w2 ⟨rfl, hb2⟩; have d0 : w2.cell? ⟨w.heap.size, 0, none⟩ = some (.int .i64 lo) := (by refine cellB hb2 ?_; (repeat (first | assumption | (with_reducible refine keepD ?_) | (with_reducible refine keepN ?_) | (with_reducible refine keepV ?_)))); have d1 : w2.cell? ⟨w.heap.size, 1, none⟩ = some (.int .i64 hi) := (by refine cellB hb2 ?_; (repeat (first | assumption | (with_reducible refine keepD ?_) | (with_reducible refine keepN ?_) | (with_reducible refine keepV ?_)))); have d2 : w2.cell? ⟨w.heap.size, 2, none⟩ = some (.int .i64 k) := (by refine cellB hb2 ?_; (repeat (first | assumption | (with_reducible refine keepD ?_) | (with_reducible refine keepN ?_) | (with_reducible refine keepV ?_)))); have y0 : w2.cell? ⟨g1, 0, none⟩ = some (.string P0) := (by refine cellB hb2 ?_; (repeat (first | assumption | (with_reducible refine keepD ?_) | (with_reducible refine keepN ?_) | (with_reducible refine keepV ?_)))); have y1 : w2.cell? ⟨g1, 1, none⟩ = some (.string P1) := (by refine cellB hb2 ?_; (repeat (first | assumption | (with_reducible refine keepD ?_) | (with_reducible refine keepN ?_) | (with_reducible refine keepV ?_)))); replace bk : Below w1.heap.size w1 w2 := Below.trans (by repeat (first | (with_reducible assumption) | (with_reducible exact Below.refl _ _) | (with_reducible refine below_drewN ?_ _) | (with_reducible refine Below.drew ?_) | (with_reducible refine Below.alloc ?_ (by first | omega | (simp <;> omega)) _))) (hb2.mono (by have := bk.size; first | omega | (simp <;> omega))); clear hb2))
        go_wp2_with fail
        refine (HS.out _).mono ?_
        rintro e w3 ⟨rfl, hb3⟩
        have d0 : w3.cell? ⟨w.heap.size, 0, none⟩ = some (.int .i64 lo) := cellB hb3 d0
        have d1 : w3.cell? ⟨w.heap.size, 1, none⟩ = some (.int .i64 hi) := cellB hb3 d1
        have d2 : w3.cell? ⟨w.heap.size, 2, none⟩ = some (.int .i64 k) := cellB hb3 d2
        have y0 : w3.cell? ⟨g1, 0, none⟩ = some (.string P0) := cellB hb3 y0
        have y1 : w3.cell? ⟨g1, 1, none⟩ = some (.string P1) := cellB hb3 y1
        replace bk : Below w1.heap.size w1 w3 := bk.trans (hb3.mono bk.size)
        clear hb3
        go_wp2_with (first | (go_at_call 84; refine (worse_any v u hv hu _).mono ?_; rintro e w9 ⟨rfl, rfl⟩; (try rw [HW.out]); refine stop_here ?_))
        unfold Stop
        have HTz : Hid (w3.there (w.heap.size + 1) 0 64) := Lib.hid (there_below HT1.out bk)
        have HBz : Hid (Below w.heap.size w w3) := Lib.hid (B0.out.trans (bk.mono (by omega)))
        go_wp2_with (first | (refine wpList_store_mid rfl 28 (.tmp 4) (.tmp 74) rfl (w.heap.size + 1) 0 (setL false noneB).toArray rfl rfl (by simpa [setL_len] using HTz.out) (infoCS.trans (by simp [setL_len])) (setL_one false noneB) ?_))
        have hfin : (w3.setCells (w.heap.size + 1) 0 (setL false noneB).toArray.toList).rangeAt (w.heap.size + 1) 0 (setL false noneB) := by
          have := World.rangeAt_setCells_same w3 (w.heap.size + 1) 0 (setL false noneB) (by rw [setL_len]; exact HTz.out)
          simpa using this
        have hbel : Below w.heap.size w (w3.setCells (w.heap.size + 1) 0 (setL false noneB).toArray.toList) := below_setCells (by omega) _ _ _ HBz.out
        refine bodyPost_ret (v := .tuple #[.agg (setL false noneB).toArray, .int .i64 0]) ?_ rfl ⟨rfl, hbel⟩
        have e9 : (setL false noneB).toArray.toList = setL false noneB := by simp
        rw [e9] at hfin
        generalize w3.setCells (w.heap.size + 1) 0 _ = W9 at hfin ⊢
        have hlv := run_loadVar_mid (P := Tryz.prog) W9 (w.heap.size + 1) 0 28 (setL false noneB) _ hfin Tryz.underlying28 rfl (infoCS.trans (by rw [setL_len]))
        clear hfin hbel e9 HR1
        generalize (setL false noneB).toArray = V9 at hlv ⊢
        simp [results, Tryz.results148, Act.put, Sem.run_bind, asAddr, hlv]
      · have g1 : decide (low < lo) = false := decide_eq_false (by omega)
        have g2 : decide (hi < high) = true := decide_eq_true q2
        go_enter Tryz.func148, Tryz.ntmps148
        go_wp2_with fail
        have ea : ((w.alloc (.cells #[.int .i64 lo, .int .i64 hi, .int .i64 k] 209)).alloc (.cells (setL false noneB).toArray 28)).heap[w.heap.size]? = some (.cells #[.int .i64 lo, .int .i64 hi, .int .i64 k] 209) := by
          rw [Below.heap_alloc _ _ _ (by simp)]; exact heap_alloc_new w _
        have ez : ((w.alloc (.cells #[.int .i64 lo, .int .i64 hi, .int .i64 k] 209)).alloc (.cells (setL false noneB).toArray 28)).heap[w.heap.size + 1]? = some (.cells (setL false noneB).toArray 28) := by
          have := heap_alloc_new (w.alloc (.cells #[.int .i64 lo, .int .i64 hi, .int .i64 k] 209)) (.cells (setL false noneB).toArray 28)
          rw [show (w.alloc (.cells #[.int .i64 lo, .int .i64 hi, .int .i64 k] 209)).heap.size = w.heap.size + 1 by simp] at this
          exact this
        have hw0 : Below w.heap.size w ((w.alloc (.cells #[.int .i64 lo, .int .i64 hi, .int .i64 k] 209)).alloc (.cells (setL false noneB).toArray 28)) := (by repeat (first | (with_reducible assumption) | (with_reducible exact Below.refl _ _) | (with_reducible refine below_drewN ?_ _) | (with_reducible refine Below.drew ?_) | (with_reducible refine Below.alloc ?_ (by first | omega | (simp <;> omega)) _)))
        have hz0 : ((w.alloc (.cells #[.int .i64 lo, .int .i64 hi, .int .i64 k] 209)).alloc (.cells (setL false noneB).toArray 28)).heap.size = w.heap.size + 2 := by simp
        refine (pieces_any t 47 ht _).mono ?_
        rintro e w1 ⟨v1, rfl, hown1, hb1⟩
        change Below ((w.alloc (.cells #[.int .i64 lo, .int .i64 hi, .int .i64 k] 209)).alloc (.cells (setL false noneB).toArray 28)).heap.size ((w.alloc (.cells #[.int .i64 lo, .int .i64 hi, .int .i64 k] 209)).alloc (.cells (setL false noneB).toArray 28)) w1 at hb1
        generalize (w.alloc (.cells #[.int .i64 lo, .int .i64 hi, .int .i64 k] 209)).alloc (.cells (setL false noneB).toArray 28) = wa at hb1 ea ez hw0 hz0
        have d0 : w1.cell? ⟨w.heap.size, 0, none⟩ = some (.int .i64 lo) := cellB hb1 (cell_of_row _ _ 0 _ _ (0, 0) ea)
        have d1 : w1.cell? ⟨w.heap.size, 1, none⟩ = some (.int .i64 hi) := cellB hb1 (cell_of_row _ _ 1 _ _ (0, 0) ea)
        have d2 : w1.cell? ⟨w.heap.size, 2, none⟩ = some (.int .i64 k) := cellB hb1 (cell_of_row _ _ 2 _ _ (0, 0) ea)
        have HR1 : Hid (w1.rangeAt (w.heap.size + 1) 0 (setL false noneB)) := Lib.hid (rangeAt_below (fun j v hv => by rw [show 0 + j = j by omega, cell_of_row _ _ j _ _ (0, 0) ez]; simpa using hv) hb1)
        have HT1 : Hid (w1.there (w.heap.size + 1) 0 64) := Lib.hid (there_below (fun j hj => by
          constructor
          · rw [cell_of_row _ _ _ _ _ (0, 0) ez]; simp [setL_len]; omega
          · unfold World.frozen?; rw [ez]; simp) hb1)
        have B0 : Hid (Below w.heap.size w w1) := Lib.hid (hw0.trans (hb1.mono hw0.size))
        have hz1 : w.heap.size + 2 ≤ w1.heap.size := by have := hb1.size; omega
        have bk : Below w1.heap.size w1 w1 := Below.refl _ _
        clear hb1 hw0 ea ez hz0
        rw [show ((47 : UInt8).toNat : Int) = 47 from rfl, HC.out] at hown1
        obtain ⟨g1, cap1, rfl, hc1, hm1, hcell1⟩ := own_open hown1 (by simp)
        have y0 : w1.cell? ⟨g1, 0, none⟩ = some (.string P0) := hcell1 0 (by simp)
        have y1 : w1.cell? ⟨g1, 1, none⟩ = some (.string P1) := hcell1 1 (by simp)
        simp only [List.length_cons, List.length_nil, Nat.zero_add, Nat.reduceAdd] at hc1 ⊢
        unfold maxLen at hm1
        clear hown1 hcell1
        go_wp2_with fail
        go_region_held3 (fun w' => w'.cell? ⟨w.heap.size, 0, none⟩ = some (.int .i64 lo) ∧ w'.cell? ⟨w.heap.size, 1, none⟩ = some (.int .i64 hi) ∧ w'.cell? ⟨w.heap.size, 2, none⟩ = some (.int .i64 k) ∧ w'.cell? ⟨g1, 0, none⟩ = some (.string P0) ∧ w'.cell? ⟨g1, 1, none⟩ = some (.string P1)) (first | (refine ⟨?_, ?_, ?_, ?_, ?_⟩ <;> (repeat (first | assumption | (with_reducible refine keepD ?_) | (with_reducible refine keepN ?_) | (with_reducible refine keepV ?_)))) | go_keep)
          (first | (go_at_call 157; refine (HE.out _).mono ?_; rintro e w2 ⟨rfl, hb2⟩; have d0 : w2.cell? ⟨w.heap.size, 0, none⟩ = some (.int .i64 lo) := (by refine cellB hb2 ?_; (repeat (first | assumption | (with_reducible refine keepD ?_) | (with_reducible refine keepN ?_) | (with_reducible refine keepV ?_)))); have d1 : w2.cell? ⟨w.heap.size, 1, none⟩ = some (.int .i64 hi) := (by refine cellB hb2 ?_; (repeat (first | assumption | (with_reducible refine keepD ?_) | (with_reducible refine keepN ?_) | (with_reducible refine keepV ?_)))); have d2 : w2.cell? ⟨w.heap.size, 2, none⟩ = some (.int .i64 k) := (by refine cellB hb2 ?_; (repeat (first | assumption | (with_reducible refine keepD ?_) | (with_reducible refine keepN ?_) | (with_reducible refine keepV ?_)))); have y0 : w2.cell? ⟨g1, 0, none⟩ = some (.string P0) := (by refine cellB hb2 ?_; (repeat (first | assumption | (with_reducible refine keepD ?_) | (with_reducible refine keepN ?_) | (with_reducible refine keepV ?_)))); have y1 : w2.cell? ⟨g1, 1, none⟩ = some (.string P1) := (by refine cellB hb2 ?_; (repeat (first | assumption | (with_reducible refine keepD ?_) | (with_reducible refine keepN ?_) | (with_reducible refine keepV ?_)))); replace bk : Below w1.heap.size w1 w2 := Below.trans (by repeat (first | (with_reducible assumption) | (with_reducible exact Below.refl _ _) | (with_reducible refine below_drewN ?_ _) | (with_reducible refine Below.drew ?_) | (with_reducible refine Below.alloc ?_ (by first | omega | (simp <;> omega)) _))) (hb2.mono (by have := bk.size; first | omega | (simp <;> omega))); clear hb2))
        go_wp2_with fail
        refine (HS.out _).mono ?_
        rintro e w3 ⟨rfl, hb3⟩
        have d0 : w3.cell? ⟨w.heap.size, 0, none⟩ = some (.int .i64 lo) := cellB hb3 d0
        have d1 : w3.cell? ⟨w.heap.size, 1, none⟩ = some (.int .i64 hi) := cellB hb3 d1
        have d2 : w3.cell? ⟨w.heap.size, 2, none⟩ = some (.int .i64 k) := cellB hb3 d2
        have y0 : w3.cell? ⟨g1, 0, none⟩ = some (.string P0) := cellB hb3 y0
        have y1 : w3.cell? ⟨g1, 1, none⟩ = some (.string P1) := cellB hb3 y1
        replace bk : Below w1.heap.size w1 w3 := bk.trans (hb3.mono bk.size)
        clear hb3
        go_wp2_with (first | (go_at_call 84; refine (worse_any v u hv hu _).mono ?_; rintro e w9 ⟨rfl, rfl⟩; (try rw [HW.out]); refine stop_here ?_))
        unfold Stop
        have HTz : Hid (w3.there (w.heap.size + 1) 0 64) := Lib.hid (there_below HT1.out bk)
        have HBz : Hid (Below w.heap.size w w3) := Lib.hid (B0.out.trans (bk.mono (by omega)))
        go_wp2_with (first | (refine wpList_store_mid rfl 28 (.tmp 4) (.tmp 74) rfl (w.heap.size + 1) 0 (setL false noneB).toArray rfl rfl (by simpa [setL_len] using HTz.out) (infoCS.trans (by simp [setL_len])) (setL_one false noneB) ?_))
        have hfin : (w3.setCells (w.heap.size + 1) 0 (setL false noneB).toArray.toList).rangeAt (w.heap.size + 1) 0 (setL false noneB) := by
          have := World.rangeAt_setCells_same w3 (w.heap.size + 1) 0 (setL false noneB) (by rw [setL_len]; exact HTz.out)
          simpa using this
        have hbel : Below w.heap.size w (w3.setCells (w.heap.size + 1) 0 (setL false noneB).toArray.toList) := below_setCells (by omega) _ _ _ HBz.out
        refine bodyPost_ret (v := .tuple #[.agg (setL false noneB).toArray, .int .i64 0]) ?_ rfl ⟨rfl, hbel⟩
        have e9 : (setL false noneB).toArray.toList = setL false noneB := by simp
        rw [e9] at hfin
        generalize w3.setCells (w.heap.size + 1) 0 _ = W9 at hfin ⊢
        have hlv := run_loadVar_mid (P := Tryz.prog) W9 (w.heap.size + 1) 0 28 (setL false noneB) _ hfin Tryz.underlying28 rfl (infoCS.trans (by rw [setL_len]))
        clear hfin hbel e9 HR1
        generalize (setL false noneB).toArray = V9 at hlv ⊢
        simp [results, Tryz.results148, Act.put, Sem.run_bind, asAddr, hlv]
      · have g1 : decide (low < lo) = false := decide_eq_false (by omega)
        have g2 : decide (hi < high) = false := decide_eq_false (by omega)
        have g3 : decide (high < low) = true := decide_eq_true q3
        go_enter Tryz.func148, Tryz.ntmps148
        go_wp2_with fail
        have ea : ((w.alloc (.cells #[.int .i64 lo, .int .i64 hi, .int .i64 k] 209)).alloc (.cells (setL false noneB).toArray 28)).heap[w.heap.size]? = some (.cells #[.int .i64 lo, .int .i64 hi, .int .i64 k] 209) := by
          rw [Below.heap_alloc _ _ _ (by simp)]; exact heap_alloc_new w _
        have ez : ((w.alloc (.cells #[.int .i64 lo, .int .i64 hi, .int .i64 k] 209)).alloc (.cells (setL false noneB).toArray 28)).heap[w.heap.size + 1]? = some (.cells (setL false noneB).toArray 28) := by
          have := heap_alloc_new (w.alloc (.cells #[.int .i64 lo, .int .i64 hi, .int .i64 k] 209)) (.cells (setL false noneB).toArray 28)
          rw [show (w.alloc (.cells #[.int .i64 lo, .int .i64 hi, .int .i64 k] 209)).heap.size = w.heap.size + 1 by simp] at this
          exact this
        have hw0 : Below w.heap.size w ((w.alloc (.cells #[.int .i64 lo, .int .i64 hi, .int .i64 k] 209)).alloc (.cells (setL false noneB).toArray 28)) := (by repeat (first | (with_reducible assumption) | (with_reducible exact Below.refl _ _) | (with_reducible refine below_drewN ?_ _) | (with_reducible refine Below.drew ?_) | (with_reducible refine Below.alloc ?_ (by first | omega | (simp <;> omega)) _)))
        have hz0 : ((w.alloc (.cells #[.int .i64 lo, .int .i64 hi, .int .i64 k] 209)).alloc (.cells (setL false noneB).toArray 28)).heap.size = w.heap.size + 2 := by simp
        refine (pieces_any t 47 ht _).mono ?_
        rintro e w1 ⟨v1, rfl, hown1, hb1⟩
        change Below ((w.alloc (.cells #[.int .i64 lo, .int .i64 hi, .int .i64 k] 209)).alloc (.cells (setL false noneB).toArray 28)).heap.size ((w.alloc (.cells #[.int .i64 lo, .int .i64 hi, .int .i64 k] 209)).alloc (.cells (setL false noneB).toArray 28)) w1 at hb1
        generalize (w.alloc (.cells #[.int .i64 lo, .int .i64 hi, .int .i64 k] 209)).alloc (.cells (setL false noneB).toArray 28) = wa at hb1 ea ez hw0 hz0
        have d0 : w1.cell? ⟨w.heap.size, 0, none⟩ = some (.int .i64 lo) := cellB hb1 (cell_of_row _ _ 0 _ _ (0, 0) ea)
        have d1 : w1.cell? ⟨w.heap.size, 1, none⟩ = some (.int .i64 hi) := cellB hb1 (cell_of_row _ _ 1 _ _ (0, 0) ea)
        have d2 : w1.cell? ⟨w.heap.size, 2, none⟩ = some (.int .i64 k) := cellB hb1 (cell_of_row _ _ 2 _ _ (0, 0) ea)
        have HR1 : Hid (w1.rangeAt (w.heap.size + 1) 0 (setL false noneB)) := Lib.hid (rangeAt_below (fun j v hv => by rw [show 0 + j = j by omega, cell_of_row _ _ j _ _ (0, 0) ez]; simpa using hv) hb1)
        have HT1 : Hid (w1.there (w.heap.size + 1) 0 64) := Lib.hid (there_below (fun j hj => by
          constructor
          · rw [cell_of_row _ _ _ _ _ (0, 0) ez]; simp [setL_len]; omega
          · unfold World.frozen?; rw [ez]; simp) hb1)
        have B0 : Hid (Below w.heap.size w w1) := Lib.hid (hw0.trans (hb1.mono hw0.size))
        have hz1 : w.heap.size + 2 ≤ w1.heap.size := by have := hb1.size; omega
        have bk : Below w1.heap.size w1 w1 := Below.refl _ _
        clear hb1 hw0 ea ez hz0
        rw [show ((47 : UInt8).toNat : Int) = 47 from rfl, HC.out] at hown1
        obtain ⟨g1, cap1, rfl, hc1, hm1, hcell1⟩ := own_open hown1 (by simp)
        have y0 : w1.cell? ⟨g1, 0, none⟩ = some (.string P0) := hcell1 0 (by simp)
        have y1 : w1.cell? ⟨g1, 1, none⟩ = some (.string P1) := hcell1 1 (by simp)
        simp only [List.length_cons, List.length_nil, Nat.zero_add, Nat.reduceAdd] at hc1 ⊢
        unfold maxLen at hm1
        clear hown1 hcell1
        go_wp2_with fail
        go_region_held3 (fun w' => w'.cell? ⟨w.heap.size, 0, none⟩ = some (.int .i64 lo) ∧ w'.cell? ⟨w.heap.size, 1, none⟩ = some (.int .i64 hi) ∧ w'.cell? ⟨w.heap.size, 2, none⟩ = some (.int .i64 k) ∧ w'.cell? ⟨g1, 0, none⟩ = some (.string P0) ∧ w'.cell? ⟨g1, 1, none⟩ = some (.string P1)) (first | (refine ⟨?_, ?_, ?_, ?_, ?_⟩ <;> (repeat (first | assumption | (with_reducible refine keepD ?_) | (with_reducible refine keepN ?_) | (with_reducible refine keepV ?_)))) | go_keep)
          (first | (go_at_call 157; refine (HE.out _).mono ?_; rintro e w2 ⟨rfl, hb2⟩; have d0 : w2.cell? ⟨w.heap.size, 0, none⟩ = some (.int .i64 lo) := (by refine cellB hb2 ?_; (repeat (first | assumption | (with_reducible refine keepD ?_) | (with_reducible refine keepN ?_) | (with_reducible refine keepV ?_)))); have d1 : w2.cell? ⟨w.heap.size, 1, none⟩ = some (.int .i64 hi) := (by refine cellB hb2 ?_; (repeat (first | assumption | (with_reducible refine keepD ?_) | (with_reducible refine keepN ?_) | (with_reducible refine keepV ?_)))); have d2 : w2.cell? ⟨w.heap.size, 2, none⟩ = some (.int .i64 k) := (by refine cellB hb2 ?_; (repeat (first | assumption | (with_reducible refine keepD ?_) | (with_reducible refine keepN ?_) | (with_reducible refine keepV ?_)))); have y0 : w2.cell? ⟨g1, 0, none⟩ = some (.string P0) := (by refine cellB hb2 ?_; (repeat (first | assumption | (with_reducible refine keepD ?_) | (with_reducible refine keepN ?_) | (with_reducible refine keepV ?_)))); have y1 : w2.cell? ⟨g1, 1, none⟩ = some (.string P1) := (by refine cellB hb2 ?_; (repeat (first | assumption | (with_reducible refine keepD ?_) | (with_reducible refine keepN ?_) | (with_reducible refine keepV ?_)))); replace bk : Below w1.heap.size w1 w2 := Below.trans (by repeat (first | (with_reducible assumption) | (with_reducible exact Below.refl _ _) | (with_reducible refine below_drewN ?_ _) | (with_reducible refine Below.drew ?_) | (with_reducible refine Below.alloc ?_ (by first | omega | (simp <;> omega)) _))) (hb2.mono (by have := bk.size; first | omega | (simp <;> omega))); clear hb2))
        go_wp2_with fail
        refine (HS.out _).mono ?_
        rintro e w3 ⟨rfl, hb3⟩
        have d0 : w3.cell? ⟨w.heap.size, 0, none⟩ = some (.int .i64 lo) := cellB hb3 d0
        have d1 : w3.cell? ⟨w.heap.size, 1, none⟩ = some (.int .i64 hi) := cellB hb3 d1
        have d2 : w3.cell? ⟨w.heap.size, 2, none⟩ = some (.int .i64 k) := cellB hb3 d2
        have y0 : w3.cell? ⟨g1, 0, none⟩ = some (.string P0) := cellB hb3 y0
        have y1 : w3.cell? ⟨g1, 1, none⟩ = some (.string P1) := cellB hb3 y1
        replace bk : Below w1.heap.size w1 w3 := bk.trans (hb3.mono bk.size)
        clear hb3
        go_wp2_with (first | (go_at_call 84; refine (worse_any v u hv hu _).mono ?_; rintro e w9 ⟨rfl, rfl⟩; (try rw [HW.out]); refine stop_here ?_))
        unfold Stop
        have HTz : Hid (w3.there (w.heap.size + 1) 0 64) := Lib.hid (there_below HT1.out bk)
        have HBz : Hid (Below w.heap.size w w3) := Lib.hid (B0.out.trans (bk.mono (by omega)))
        go_wp2_with (first | (refine wpList_store_mid rfl 28 (.tmp 4) (.tmp 74) rfl (w.heap.size + 1) 0 (setL false noneB).toArray rfl rfl (by simpa [setL_len] using HTz.out) (infoCS.trans (by simp [setL_len])) (setL_one false noneB) ?_))
        have hfin : (w3.setCells (w.heap.size + 1) 0 (setL false noneB).toArray.toList).rangeAt (w.heap.size + 1) 0 (setL false noneB) := by
          have := World.rangeAt_setCells_same w3 (w.heap.size + 1) 0 (setL false noneB) (by rw [setL_len]; exact HTz.out)
          simpa using this
        have hbel : Below w.heap.size w (w3.setCells (w.heap.size + 1) 0 (setL false noneB).toArray.toList) := below_setCells (by omega) _ _ _ HBz.out
        refine bodyPost_ret (v := .tuple #[.agg (setL false noneB).toArray, .int .i64 0]) ?_ rfl ⟨rfl, hbel⟩
        have e9 : (setL false noneB).toArray.toList = setL false noneB := by simp
        rw [e9] at hfin
        generalize w3.setCells (w.heap.size + 1) 0 _ = W9 at hfin ⊢
        have hlv := run_loadVar_mid (P := Tryz.prog) W9 (w.heap.size + 1) 0 28 (setL false noneB) _ hfin Tryz.underlying28 rfl (infoCS.trans (by rw [setL_len]))
        clear hfin hbel e9 HR1
        generalize (setL false noneB).toArray = V9 at hlv ⊢
        simp [results, Tryz.results148, Act.put, Sem.run_bind, asAddr, hlv]

end Go.Proofs.YtkhggefbkhdimaaGreatDoor
