/- spec.CronItem. -/
import Derived.Test.YtkhggefbkhdimaaGreatDoorFdS
import Derived.Test.YtkhggefbkhdimaaGreatDoorFdK
namespace Go.Proofs.YtkhggefbkhdimaaGreatDoor
open Go.RowKit
set_option linter.unusedVariables false
set_option linter.unusedSimpArgs false

def SetV (st : Bool) (f : Nat → Bool) (v : Nat) (w : World) (e : Ending) (w' : World) : Prop := e = .returned (.tuple #[.agg (setL st f).toArray, .int .i64 v]) ∧ Below w.heap.size w w'
def EndsIs (lo hi k : Nat) (t : ByteArray) (a b : Nat) (st sg : Bool) (v : Nat) : Prop := ∀ W : World, Calls Tryz.prog 157 #[.agg #[.int .i64 lo, .int .i64 hi, .int .i64 k], .string t] W (R5 a b st sg v W)
def StepIs (t : ByteArray) (p : Nat × Nat) : Prop := ∀ W : World, Calls Tryz.prog 158 #[.string t] W (ValPost p W)
theorem mod_fact (n a s : Nat) (h : a ≤ n) (b : Bool) (hb : decide ((n - a) % s = 0) = b) : (((n : Int) - (a : Int)) % (s : Int) == 0) = b := by
  rw [← hb, show ((n : Int) - (a : Int)) = ((n - a : Nat) : Int) by omega, show (((n - a : Nat) : Int) % (s : Int)) = (((n - a) % s : Nat) : Int) by push_cast; rfl]
  generalize (n - a) % s = x
  by_cases h : x = 0
  · subst h; rfl
  · have : ((x : Int) == 0) = false := by simp only [beq_eq_false_iff_ne]; omega
    rw [this]; simp [h]
set_option maxRecDepth 100000 in
set_option maxHeartbeats 4000000 in
theorem item_3 (k lo hi : Nat) (t : ByteArray) (ht : t.size ≤ 2147483654) (P0 P1 P2 : ByteArray) (PS : List ByteArray) (HC : Hid (cutB 47 t = P0 :: P1 :: P2 :: PS)) (w : World) :
    Calls Tryz.prog 148 #[.agg #[.int .i64 lo, .int .i64 hi, .int .i64 k], .string t] w (SetV false noneB 0 w) := by
  go_enter Tryz.func148, Tryz.ntmps148
  go_wp2_with fail
  have ea : ((w.alloc (.cells #[.int .i64 lo, .int .i64 hi, .int .i64 k] 209)).alloc (.cells (setL false noneB).toArray 28)).heap[w.heap.size]? = some (.cells #[.int .i64 lo, .int .i64 hi, .int .i64 k] 209) := by
    rw [Below.heap_alloc _ _ _ (by simp)]; exact heap_alloc_new w _
  have ez : ((w.alloc (.cells #[.int .i64 lo, .int .i64 hi, .int .i64 k] 209)).alloc (.cells (setL false noneB).toArray 28)).heap[w.heap.size + 1]? = some (.cells (setL false noneB).toArray 28) := by
    have := heap_alloc_new (w.alloc (.cells #[.int .i64 lo, .int .i64 hi, .int .i64 k] 209)) (.cells (setL false noneB).toArray 28)
    rw [show (w.alloc (.cells #[.int .i64 lo, .int .i64 hi, .int .i64 k] 209)).heap.size = w.heap.size + 1 by simp] at this
    exact this
  have hw0 : Below w.heap.size w ((w.alloc (.cells #[.int .i64 lo, .int .i64 hi, .int .i64 k] 209)).alloc (.cells (setL false noneB).toArray 28)) := (by repeat (first | (with_reducible assumption) | (with_reducible exact Below.refl _ _) | (with_reducible refine below_drewN ?_ _) | (with_reducible refine Below.drew ?_) | (with_reducible refine Below.alloc ?_ (by first | omega | (simp <;> omega)) _)))
  have hz0 : ((w.alloc (.cells #[.int .i64 lo, .int .i64 hi, .int .i64 k] 209)).alloc (.cells (setL false noneB).toArray 28)).heap.size = w.heap.size + 2 := by simp
  refine (pieces_any t 47 ht _).mono ?_
  rintro e w1 ⟨v1, rfl, hown1, hb1⟩
  change Below ((w.alloc (.cells #[.int .i64 lo, .int .i64 hi, .int .i64 k] 209)).alloc (.cells (setL false noneB).toArray 28)).heap.size ((w.alloc (.cells #[.int .i64 lo, .int .i64 hi, .int .i64 k] 209)).alloc (.cells (setL false noneB).toArray 28)) w1 at hb1
  generalize (w.alloc (.cells #[.int .i64 lo, .int .i64 hi, .int .i64 k] 209)).alloc (.cells (setL false noneB).toArray 28) = wa at hb1 ea ez hw0 hz0
  have d0 : w1.cell? ⟨w.heap.size, 0, none⟩ = some (.int .i64 lo) := cellB hb1 (cell_of_row _ _ 0 _ _ (0, 0) ea)
  have d1 : w1.cell? ⟨w.heap.size, 1, none⟩ = some (.int .i64 hi) := cellB hb1 (cell_of_row _ _ 1 _ _ (0, 0) ea)
  have d2 : w1.cell? ⟨w.heap.size, 2, none⟩ = some (.int .i64 k) := cellB hb1 (cell_of_row _ _ 2 _ _ (0, 0) ea)
  have HR1 : Hid (w1.rangeAt (w.heap.size + 1) 0 (setL false noneB)) := Lib.hid (rangeAt_below (fun j v hv => by rw [show 0 + j = j by omega, cell_of_row _ _ j _ _ (0, 0) ez]; simpa using hv) hb1)
  have HT1 : Hid (w1.there (w.heap.size + 1) 0 64) := Lib.hid (there_below (fun j hj => by
    constructor
    · rw [cell_of_row _ _ _ _ _ (0, 0) ez]; simp [setL_len]; omega
    · unfold World.frozen?; rw [ez]; simp) hb1)
  have B0 : Hid (Below w.heap.size w w1) := Lib.hid (hw0.trans (hb1.mono hw0.size))
  have hz1 : w.heap.size + 2 ≤ w1.heap.size := by have := hb1.size; omega
  have bk : Below w1.heap.size w1 w1 := Below.refl _ _
  clear hb1 hw0 ea ez hz0
  rw [show ((47 : UInt8).toNat : Int) = 47 from rfl, HC.out] at hown1
  obtain ⟨g1, cap1, rfl, hc1, hm1, hcell1⟩ := own_open hown1 (by simp)
  have y0 : w1.cell? ⟨g1, 0, none⟩ = some (.string P0) := hcell1 0 (by simp)
  obtain ⟨n, hn⟩ : ∃ n, n = (P0 :: P1 :: P2 :: PS).length := ⟨_, rfl⟩
  rw [← hn] at hc1 ⊢
  have hn3 : 3 ≤ n := by rw [hn]; simp
  clear hn hown1 hcell1
  unfold maxLen at hm1
  have l1 : decide ((2 : Int) < (n : Int)) = true := decide_eq_true (by omega)
  have HTz : Hid (w1.there (w.heap.size + 1) 0 64) := Lib.hid (there_below HT1.out bk)
  have HBz : Hid (Below w.heap.size w w1) := Lib.hid (B0.out.trans (bk.mono (by omega)))
  go_wp2_with (first | (refine wpList_store_mid rfl 28 (.tmp 4) (.tmp 22) rfl (w.heap.size + 1) 0 (setL false noneB).toArray rfl rfl (by simpa [setL_len] using HTz.out) (infoCS.trans (by simp [setL_len])) (setL_one false noneB) ?_))
  have hfin : (w1.setCells (w.heap.size + 1) 0 (setL false noneB).toArray.toList).rangeAt (w.heap.size + 1) 0 (setL false noneB) := by
    have := World.rangeAt_setCells_same w1 (w.heap.size + 1) 0 (setL false noneB) (by rw [setL_len]; exact HTz.out)
    simpa using this
  have hbel : Below w.heap.size w (w1.setCells (w.heap.size + 1) 0 (setL false noneB).toArray.toList) := below_setCells (by omega) _ _ _ HBz.out
  refine bodyPost_ret (v := .tuple #[.agg (setL false noneB).toArray, .int .i64 0]) ?_ rfl ⟨rfl, hbel⟩
  have e9 : (setL false noneB).toArray.toList = setL false noneB := by simp
  rw [e9] at hfin
  generalize w1.setCells (w.heap.size + 1) 0 _ = W9 at hfin ⊢
  have hlv := run_loadVar_mid (P := Tryz.prog) W9 (w.heap.size + 1) 0 28 (setL false noneB) _ hfin Tryz.underlying28 rfl (infoCS.trans (by rw [setL_len]))
  clear hfin hbel e9 HR1
  generalize (setL false noneB).toArray = V9 at hlv ⊢
  simp [results, Tryz.results148, Act.put, Sem.run_bind, asAddr, hlv]

set_option maxRecDepth 100000 in
set_option maxHeartbeats 4000000 in
theorem item_1v (k lo hi : Nat) (t : ByteArray) (ht : t.size ≤ 2147483654) (P0 : ByteArray) (HC : Hid (cutB 47 t = [P0])) (low high v : Nat) (st sg : Bool) (HE : Hid (EndsIs lo hi k P0 low high st sg v)) (hv : v ≠ 1) (w : World) :
    Calls Tryz.prog 148 #[.agg #[.int .i64 lo, .int .i64 hi, .int .i64 k], .string t] w (SetV false noneB v w) := by
  have qv : ((v : Int) != 1) = true := by simp only [bne_iff_ne]; omega
  go_enter Tryz.func148, Tryz.ntmps148
  go_wp2_with fail
  have ea : ((w.alloc (.cells #[.int .i64 lo, .int .i64 hi, .int .i64 k] 209)).alloc (.cells (setL false noneB).toArray 28)).heap[w.heap.size]? = some (.cells #[.int .i64 lo, .int .i64 hi, .int .i64 k] 209) := by
    rw [Below.heap_alloc _ _ _ (by simp)]; exact heap_alloc_new w _
  have ez : ((w.alloc (.cells #[.int .i64 lo, .int .i64 hi, .int .i64 k] 209)).alloc (.cells (setL false noneB).toArray 28)).heap[w.heap.size + 1]? = some (.cells (setL false noneB).toArray 28) := by
    have := heap_alloc_new (w.alloc (.cells #[.int .i64 lo, .int .i64 hi, .int .i64 k] 209)) (.cells (setL false noneB).toArray 28)
    rw [show (w.alloc (.cells #[.int .i64 lo, .int .i64 hi, .int .i64 k] 209)).heap.size = w.heap.size + 1 by simp] at this
    exact this
  have hw0 : Below w.heap.size w ((w.alloc (.cells #[.int .i64 lo, .int .i64 hi, .int .i64 k] 209)).alloc (.cells (setL false noneB).toArray 28)) := (by repeat (first | (with_reducible assumption) | (with_reducible exact Below.refl _ _) | (with_reducible refine below_drewN ?_ _) | (with_reducible refine Below.drew ?_) | (with_reducible refine Below.alloc ?_ (by first | omega | (simp <;> omega)) _)))
  have hz0 : ((w.alloc (.cells #[.int .i64 lo, .int .i64 hi, .int .i64 k] 209)).alloc (.cells (setL false noneB).toArray 28)).heap.size = w.heap.size + 2 := by simp
  refine (pieces_any t 47 ht _).mono ?_
  rintro e w1 ⟨v1, rfl, hown1, hb1⟩
  change Below ((w.alloc (.cells #[.int .i64 lo, .int .i64 hi, .int .i64 k] 209)).alloc (.cells (setL false noneB).toArray 28)).heap.size ((w.alloc (.cells #[.int .i64 lo, .int .i64 hi, .int .i64 k] 209)).alloc (.cells (setL false noneB).toArray 28)) w1 at hb1
  generalize (w.alloc (.cells #[.int .i64 lo, .int .i64 hi, .int .i64 k] 209)).alloc (.cells (setL false noneB).toArray 28) = wa at hb1 ea ez hw0 hz0
  have d0 : w1.cell? ⟨w.heap.size, 0, none⟩ = some (.int .i64 lo) := cellB hb1 (cell_of_row _ _ 0 _ _ (0, 0) ea)
  have d1 : w1.cell? ⟨w.heap.size, 1, none⟩ = some (.int .i64 hi) := cellB hb1 (cell_of_row _ _ 1 _ _ (0, 0) ea)
  have d2 : w1.cell? ⟨w.heap.size, 2, none⟩ = some (.int .i64 k) := cellB hb1 (cell_of_row _ _ 2 _ _ (0, 0) ea)
  have HR1 : Hid (w1.rangeAt (w.heap.size + 1) 0 (setL false noneB)) := Lib.hid (rangeAt_below (fun j v hv => by rw [show 0 + j = j by omega, cell_of_row _ _ j _ _ (0, 0) ez]; simpa using hv) hb1)
  have HT1 : Hid (w1.there (w.heap.size + 1) 0 64) := Lib.hid (there_below (fun j hj => by
    constructor
    · rw [cell_of_row _ _ _ _ _ (0, 0) ez]; simp [setL_len]; omega
    · unfold World.frozen?; rw [ez]; simp) hb1)
  have B0 : Hid (Below w.heap.size w w1) := Lib.hid (hw0.trans (hb1.mono hw0.size))
  have hz1 : w.heap.size + 2 ≤ w1.heap.size := by have := hb1.size; omega
  have bk : Below w1.heap.size w1 w1 := Below.refl _ _
  clear hb1 hw0 ea ez hz0
  rw [show ((47 : UInt8).toNat : Int) = 47 from rfl, HC.out] at hown1
  obtain ⟨g1, cap1, rfl, hc1, hm1, hcell1⟩ := own_open hown1 (by simp)
  have y0 : w1.cell? ⟨g1, 0, none⟩ = some (.string P0) := hcell1 0 (by simp)
  simp only [List.length_cons, List.length_nil, Nat.zero_add, Nat.reduceAdd] at hc1 ⊢
  unfold maxLen at hm1
  clear hown1 hcell1
  go_wp2_with fail
  go_region_held3 (fun w' => w'.cell? ⟨w.heap.size, 0, none⟩ = some (.int .i64 lo) ∧ w'.cell? ⟨w.heap.size, 1, none⟩ = some (.int .i64 hi) ∧ w'.cell? ⟨w.heap.size, 2, none⟩ = some (.int .i64 k) ∧ w'.cell? ⟨g1, 0, none⟩ = some (.string P0)) (first | (refine ⟨?_, ?_, ?_, ?_⟩ <;> (repeat (first | assumption | (with_reducible refine keepD ?_) | (with_reducible refine keepN ?_) | (with_reducible refine keepV ?_)))) | go_keep)
    (first | (go_at_call 157; refine (HE.out _).mono ?_; rintro e w2 ⟨rfl, hb2⟩; have d0 : w2.cell? ⟨w.heap.size, 0, none⟩ = some (.int .i64 lo) := (by refine cellB hb2 ?_; (repeat (first | assumption | (with_reducible refine keepD ?_) | (with_reducible refine keepN ?_) | (with_reducible refine keepV ?_)))); have d1 : w2.cell? ⟨w.heap.size, 1, none⟩ = some (.int .i64 hi) := (by refine cellB hb2 ?_; (repeat (first | assumption | (with_reducible refine keepD ?_) | (with_reducible refine keepN ?_) | (with_reducible refine keepV ?_)))); have d2 : w2.cell? ⟨w.heap.size, 2, none⟩ = some (.int .i64 k) := (by refine cellB hb2 ?_; (repeat (first | assumption | (with_reducible refine keepD ?_) | (with_reducible refine keepN ?_) | (with_reducible refine keepV ?_)))); have y0 : w2.cell? ⟨g1, 0, none⟩ = some (.string P0) := (by refine cellB hb2 ?_; (repeat (first | assumption | (with_reducible refine keepD ?_) | (with_reducible refine keepN ?_) | (with_reducible refine keepV ?_)))); replace bk : Below w1.heap.size w1 w2 := Below.trans (by repeat (first | (with_reducible assumption) | (with_reducible exact Below.refl _ _) | (with_reducible refine below_drewN ?_ _) | (with_reducible refine Below.drew ?_) | (with_reducible refine Below.alloc ?_ (by first | omega | (simp <;> omega)) _))) (hb2.mono (by have := bk.size; first | omega | (simp <;> omega))); clear hb2))
  have HTz : Hid (w2.there (w.heap.size + 1) 0 64) := Lib.hid (there_below HT1.out bk)
  have HBz : Hid (Below w.heap.size w w2) := Lib.hid (B0.out.trans (bk.mono (by omega)))
  go_wp2_with (first | (refine wpList_store_mid rfl 28 (.tmp 4) (.tmp 57) rfl (w.heap.size + 1) 0 (setL false noneB).toArray rfl rfl (by simpa [setL_len] using HTz.out) (infoCS.trans (by simp [setL_len])) (setL_one false noneB) ?_))
  have hfin : (w2.setCells (w.heap.size + 1) 0 (setL false noneB).toArray.toList).rangeAt (w.heap.size + 1) 0 (setL false noneB) := by
    have := World.rangeAt_setCells_same w2 (w.heap.size + 1) 0 (setL false noneB) (by rw [setL_len]; exact HTz.out)
    simpa using this
  have hbel : Below w.heap.size w (w2.setCells (w.heap.size + 1) 0 (setL false noneB).toArray.toList) := below_setCells (by omega) _ _ _ HBz.out
  refine bodyPost_ret (v := .tuple #[.agg (setL false noneB).toArray, .int .i64 v]) ?_ rfl ⟨rfl, hbel⟩
  have e9 : (setL false noneB).toArray.toList = setL false noneB := by simp
  rw [e9] at hfin
  generalize w2.setCells (w.heap.size + 1) 0 _ = W9 at hfin ⊢
  have hlv := run_loadVar_mid (P := Tryz.prog) W9 (w.heap.size + 1) 0 28 (setL false noneB) _ hfin Tryz.underlying28 rfl (infoCS.trans (by rw [setL_len]))
  clear hfin hbel e9 HR1
  generalize (setL false noneB).toArray = V9 at hlv ⊢
  simp [results, Tryz.results148, Act.put, Sem.run_bind, asAddr, hlv]

set_option maxRecDepth 100000 in
set_option maxHeartbeats 4000000 in
theorem item_1b (k lo hi : Nat) (t : ByteArray) (ht : t.size ≤ 2147483654) (P0 : ByteArray) (HC : Hid (cutB 47 t = [P0])) (low high : Nat) (st sg : Bool) (HE : Hid (EndsIs lo hi k P0 low high st sg 1)) (hbad : low < lo ∨ hi < high ∨ high < low) (w : World) :
    Calls Tryz.prog 148 #[.agg #[.int .i64 lo, .int .i64 hi, .int .i64 k], .string t] w (SetV false noneB 0 w) := by
  rcases (by omega : low < lo ∨ (lo ≤ low ∧ hi < high) ∨ (lo ≤ low ∧ high ≤ hi ∧ high < low)) with q1 | ⟨q1, q2⟩ | ⟨q1, q2, q3⟩
  · have g1 : decide (low < lo) = true := decide_eq_true q1
    go_enter Tryz.func148, Tryz.ntmps148
    go_wp2_with fail
    have ea : ((w.alloc (.cells #[.int .i64 lo, .int .i64 hi, .int .i64 k] 209)).alloc (.cells (setL false noneB).toArray 28)).heap[w.heap.size]? = some (.cells #[.int .i64 lo, .int .i64 hi, .int .i64 k] 209) := by
      rw [Below.heap_alloc _ _ _ (by simp)]; exact heap_alloc_new w _
    have ez : ((w.alloc (.cells #[.int .i64 lo, .int .i64 hi, .int .i64 k] 209)).alloc (.cells (setL false noneB).toArray 28)).heap[w.heap.size + 1]? = some (.cells (setL false noneB).toArray 28) := by
      have := heap_alloc_new (w.alloc (.cells #[.int .i64 lo, .int .i64 hi, .int .i64 k] 209)) (.cells (setL false noneB).toArray 28)
      rw [show (w.alloc (.cells #[.int .i64 lo, .int .i64 hi, .int .i64 k] 209)).heap.size = w.heap.size + 1 by simp] at this
      exact this
    have hw0 : Below w.heap.size w ((w.alloc (.cells #[.int .i64 lo, .int .i64 hi, .int .i64 k] 209)).alloc (.cells (setL false noneB).toArray 28)) := (by repeat (first | (with_reducible assumption) | (with_reducible exact Below.refl _ _) | (with_reducible refine below_drewN ?_ _) | (with_reducible refine Below.drew ?_) | (with_reducible refine Below.alloc ?_ (by first | omega | (simp <;> omega)) _)))
    have hz0 : ((w.alloc (.cells #[.int .i64 lo, .int .i64 hi, .int .i64 k] 209)).alloc (.cells (setL false noneB).toArray 28)).heap.size = w.heap.size + 2 := by simp
    refine (pieces_any t 47 ht _).mono ?_
    rintro e w1 ⟨v1, rfl, hown1, hb1⟩
    change Below ((w.alloc (.cells #[.int .i64 lo, .int .i64 hi, .int .i64 k] 209)).alloc (.cells (setL false noneB).toArray 28)).heap.size ((w.alloc (.cells #[.int .i64 lo, .int .i64 hi, .int .i64 k] 209)).alloc (.cells (setL false noneB).toArray 28)) w1 at hb1
    generalize (w.alloc (.cells #[.int .i64 lo, .int .i64 hi, .int .i64 k] 209)).alloc (.cells (setL false noneB).toArray 28) = wa at hb1 ea ez hw0 hz0
    have d0 : w1.cell? ⟨w.heap.size, 0, none⟩ = some (.int .i64 lo) := cellB hb1 (cell_of_row _ _ 0 _ _ (0, 0) ea)
    have d1 : w1.cell? ⟨w.heap.size, 1, none⟩ = some (.int .i64 hi) := cellB hb1 (cell_of_row _ _ 1 _ _ (0, 0) ea)
    have d2 : w1.cell? ⟨w.heap.size, 2, none⟩ = some (.int .i64 k) := cellB hb1 (cell_of_row _ _ 2 _ _ (0, 0) ea)
    have HR1 : Hid (w1.rangeAt (w.heap.size + 1) 0 (setL false noneB)) := Lib.hid (rangeAt_below (fun j v hv => by rw [show 0 + j = j by omega, cell_of_row _ _ j _ _ (0, 0) ez]; simpa using hv) hb1)
    have HT1 : Hid (w1.there (w.heap.size + 1) 0 64) := Lib.hid (there_below (fun j hj => by
      constructor
      · rw [cell_of_row _ _ _ _ _ (0, 0) ez]; simp [setL_len]; omega
      · unfold World.frozen?; rw [ez]; simp) hb1)
    have B0 : Hid (Below w.heap.size w w1) := Lib.hid (hw0.trans (hb1.mono hw0.size))
    have hz1 : w.heap.size + 2 ≤ w1.heap.size := by have := hb1.size; omega
    have bk : Below w1.heap.size w1 w1 := Below.refl _ _
    clear hb1 hw0 ea ez hz0
    rw [show ((47 : UInt8).toNat : Int) = 47 from rfl, HC.out] at hown1
    obtain ⟨g1, cap1, rfl, hc1, hm1, hcell1⟩ := own_open hown1 (by simp)
    have y0 : w1.cell? ⟨g1, 0, none⟩ = some (.string P0) := hcell1 0 (by simp)
    simp only [List.length_cons, List.length_nil, Nat.zero_add, Nat.reduceAdd] at hc1 ⊢
    unfold maxLen at hm1
    clear hown1 hcell1
    go_wp2_with fail
    go_region_held3 (fun w' => w'.cell? ⟨w.heap.size, 0, none⟩ = some (.int .i64 lo) ∧ w'.cell? ⟨w.heap.size, 1, none⟩ = some (.int .i64 hi) ∧ w'.cell? ⟨w.heap.size, 2, none⟩ = some (.int .i64 k) ∧ w'.cell? ⟨g1, 0, none⟩ = some (.string P0)) (first | (refine ⟨?_, ?_, ?_, ?_⟩ <;> (repeat (first | assumption | (with_reducible refine keepD ?_) | (with_reducible refine keepN ?_) | (with_reducible refine keepV ?_)))) | go_keep)
      (first | (go_at_call 157; refine (HE.out _).mono ?_; rintro e w2 ⟨rfl, hb2⟩; have d0 : w2.cell? ⟨w.heap.size, 0, none⟩ = some (.int .i64 lo) := (by refine cellB hb2 ?_; (repeat (first | assumption | (with_reducible refine keepD ?_) | (with_reducible refine keepN ?_) | (with_reducible refine keepV ?_)))); have d1 : w2.cell? ⟨w.heap.size, 1, none⟩ = some (.int .i64 hi) := (by refine cellB hb2 ?_; (repeat (first | assumption | (with_reducible refine keepD ?_) | (with_reducible refine keepN ?_) | (with_reducible refine keepV ?_)))); have d2 : w2.cell? ⟨w.heap.size, 2, none⟩ = some (.int .i64 k) := (by refine cellB hb2 ?_; (repeat (first | assumption | (with_reducible refine keepD ?_) | (with_reducible refine keepN ?_) | (with_reducible refine keepV ?_)))); have y0 : w2.cell? ⟨g1, 0, none⟩ = some (.string P0) := (by refine cellB hb2 ?_; (repeat (first | assumption | (with_reducible refine keepD ?_) | (with_reducible refine keepN ?_) | (with_reducible refine keepV ?_)))); replace bk : Below w1.heap.size w1 w2 := Below.trans (by repeat (first | (with_reducible assumption) | (with_reducible exact Below.refl _ _) | (with_reducible refine below_drewN ?_ _) | (with_reducible refine Below.drew ?_) | (with_reducible refine Below.alloc ?_ (by first | omega | (simp <;> omega)) _))) (hb2.mono (by have := bk.size; first | omega | (simp <;> omega))); clear hb2))
    have HTz : Hid (w2.there (w.heap.size + 1) 0 64) := Lib.hid (there_below HT1.out bk)
    have HBz : Hid (Below w.heap.size w w2) := Lib.hid (B0.out.trans (bk.mono (by omega)))
    go_wp2_with (first | (refine wpList_store_mid rfl 28 (.tmp 4) (.tmp 74) rfl (w.heap.size + 1) 0 (setL false noneB).toArray rfl rfl (by simpa [setL_len] using HTz.out) (infoCS.trans (by simp [setL_len])) (setL_one false noneB) ?_))
    have hfin : (w2.setCells (w.heap.size + 1) 0 (setL false noneB).toArray.toList).rangeAt (w.heap.size + 1) 0 (setL false noneB) := by
      have := World.rangeAt_setCells_same w2 (w.heap.size + 1) 0 (setL false noneB) (by rw [setL_len]; exact HTz.out)
      simpa using this
    have hbel : Below w.heap.size w (w2.setCells (w.heap.size + 1) 0 (setL false noneB).toArray.toList) := below_setCells (by omega) _ _ _ HBz.out
    refine bodyPost_ret (v := .tuple #[.agg (setL false noneB).toArray, .int .i64 0]) ?_ rfl ⟨rfl, hbel⟩
    have e9 : (setL false noneB).toArray.toList = setL false noneB := by simp
    rw [e9] at hfin
    generalize w2.setCells (w.heap.size + 1) 0 _ = W9 at hfin ⊢
    have hlv := run_loadVar_mid (P := Tryz.prog) W9 (w.heap.size + 1) 0 28 (setL false noneB) _ hfin Tryz.underlying28 rfl (infoCS.trans (by rw [setL_len]))
    clear hfin hbel e9 HR1
    generalize (setL false noneB).toArray = V9 at hlv ⊢
    simp [results, Tryz.results148, Act.put, Sem.run_bind, asAddr, hlv]
  · have g1 : decide (low < lo) = false := decide_eq_false (by omega)
    have g2 : decide (hi < high) = true := decide_eq_true q2
    go_enter Tryz.func148, Tryz.ntmps148
    go_wp2_with fail
    have ea : ((w.alloc (.cells #[.int .i64 lo, .int .i64 hi, .int .i64 k] 209)).alloc (.cells (setL false noneB).toArray 28)).heap[w.heap.size]? = some (.cells #[.int .i64 lo, .int .i64 hi, .int .i64 k] 209) := by
      rw [Below.heap_alloc _ _ _ (by simp)]; exact heap_alloc_new w _
    have ez : ((w.alloc (.cells #[.int .i64 lo, .int .i64 hi, .int .i64 k] 209)).alloc (.cells (setL false noneB).toArray 28)).heap[w.heap.size + 1]? = some (.cells (setL false noneB).toArray 28) := by
      have := heap_alloc_new (w.alloc (.cells #[.int .i64 lo, .int .i64 hi, .int .i64 k] 209)) (.cells (setL false noneB).toArray 28)
      rw [show (w.alloc (.cells #[.int .i64 lo, .int .i64 hi, .int .i64 k] 209)).heap.size = w.heap.size + 1 by simp] at this
      exact this
    have hw0 : Below w.heap.size w ((w.alloc (.cells #[.int .i64 lo, .int .i64 hi, .int .i64 k] 209)).alloc (.cells (setL false noneB).toArray 28)) := (by repeat (first | (with_reducible assumption) | (with_reducible exact Below.refl _ _) | (with_reducible refine below_drewN ?_ _) | (with_reducible refine Below.drew ?_) | (with_reducible refine Below.alloc ?_ (by first | omega | (simp <;> omega)) _)))
    have hz0 : ((w.alloc (.cells #[.int .i64 lo, .int .i64 hi, .int .i64 k] 209)).alloc (.cells (setL false noneB).toArray 28)).heap.size = w.heap.size + 2 := by simp
    refine (pieces_any t 47 ht _).mono ?_
    rintro e w1 ⟨v1, rfl, hown1, hb1⟩
    change Below ((w.alloc (.cells #[.int .i64 lo, .int .i64 hi, .int .i64 k] 209)).alloc (.cells (setL false noneB).toArray 28)).heap.size ((w.alloc (.cells #[.int .i64 lo, .int .i64 hi, .int .i64 k] 209)).alloc (.cells (setL false noneB).toArray 28)) w1 at hb1
    generalize (w.alloc (.cells #[.int .i64 lo, .int .i64 hi, .int .i64 k] 209)).alloc (.cells (setL false noneB).toArray 28) = wa at hb1 ea ez hw0 hz0
    have d0 : w1.cell? ⟨w.heap.size, 0, none⟩ = some (.int .i64 lo) := cellB hb1 (cell_of_row _ _ 0 _ _ (0, 0) ea)
    have d1 : w1.cell? ⟨w.heap.size, 1, none⟩ = some (.int .i64 hi) := cellB hb1 (cell_of_row _ _ 1 _ _ (0, 0) ea)
    have d2 : w1.cell? ⟨w.heap.size, 2, none⟩ = some (.int .i64 k) := cellB hb1 (cell_of_row _ _ 2 _ _ (0, 0) ea)
    have HR1 : Hid (w1.rangeAt (w.heap.size + 1) 0 (setL false noneB)) := Lib.hid (rangeAt_below (fun j v hv => by rw [show 0 + j = j by omega, cell_of_row _ _ j _ _ (0, 0) ez]; simpa using hv) hb1)
    have HT1 : Hid (w1.there (w.heap.size + 1) 0 64) := Lib.hid (there_below (fun j hj => by
      constructor
      · rw [cell_of_row _ _ _ _ _ (0, 0) ez]; simp [setL_len]; omega
      · unfold World.frozen?; rw [ez]; simp) hb1)
    have B0 : Hid (Below w.heap.size w w1) := Lib.hid (hw0.trans (hb1.mono hw0.size))
    have hz1 : w.heap.size + 2 ≤ w1.heap.size := by have := hb1.size; omega
    have bk : Below w1.heap.size w1 w1 := Below.refl _ _
    clear hb1 hw0 ea ez hz0
    rw [show ((47 : UInt8).toNat : Int) = 47 from rfl, HC.out] at hown1
    obtain ⟨g1, cap1, rfl, hc1, hm1, hcell1⟩ := own_open hown1 (by simp)
    have y0 : w1.cell? ⟨g1, 0, none⟩ = some (.string P0) := hcell1 0 (by simp)
    simp only [List.length_cons, List.length_nil, Nat.zero_add, Nat.reduceAdd] at hc1 ⊢
    unfold maxLen at hm1
    clear hown1 hcell1
    go_wp2_with fail
    go_region_held3 (fun w' => w'.cell? ⟨w.heap.size, 0, none⟩ = some (.int .i64 lo) ∧ w'.cell? ⟨w.heap.size, 1, none⟩ = some (.int .i64 hi) ∧ w'.cell? ⟨w.heap.size, 2, none⟩ = some (.int .i64 k) ∧ w'.cell? ⟨g1, 0, none⟩ = some (.string P0)) (first | (refine ⟨?_, ?_, ?_, ?_⟩ <;> (repeat (first | assumption | (with_reducible refine keepD ?_) | (with_reducible refine keepN ?_) | (with_reducible refine keepV ?_)))) | go_keep)
      (first | (go_at_call 157; refine (HE.out _).mono ?_; rintro e w2 ⟨rfl, hb2⟩; have d0 : w2.cell? ⟨w.heap.size, 0, none⟩ = some (.int .i64 lo) := (by refine cellB hb2 ?_; (repeat (first | assumption | (with_reducible refine keepD ?_) | (with_reducible refine keepN ?_) | (with_reducible refine keepV ?_)))); have d1 : w2.cell? ⟨w.heap.size, 1, none⟩ = some (.int .i64 hi) := (by refine cellB hb2 ?_; (repeat (first | assumption | (with_reducible refine keepD ?_) | (with_reducible refine keepN ?_) | (with_reducible refine keepV ?_)))); have d2 : w2.cell? ⟨w.heap.size, 2, none⟩ = some (.int .i64 k) := (by refine cellB hb2 ?_; (repeat (first | assumption | (with_reducible refine keepD ?_) | (with_reducible refine keepN ?_) | (with_reducible refine keepV ?_)))); have y0 : w2.cell? ⟨g1, 0, none⟩ = some (.string P0) := (by refine cellB hb2 ?_; (repeat (first | assumption | (with_reducible refine keepD ?_) | (with_reducible refine keepN ?_) | (with_reducible refine keepV ?_)))); replace bk : Below w1.heap.size w1 w2 := Below.trans (by repeat (first | (with_reducible assumption) | (with_reducible exact Below.refl _ _) | (with_reducible refine below_drewN ?_ _) | (with_reducible refine Below.drew ?_) | (with_reducible refine Below.alloc ?_ (by first | omega | (simp <;> omega)) _))) (hb2.mono (by have := bk.size; first | omega | (simp <;> omega))); clear hb2))
    have HTz : Hid (w2.there (w.heap.size + 1) 0 64) := Lib.hid (there_below HT1.out bk)
    have HBz : Hid (Below w.heap.size w w2) := Lib.hid (B0.out.trans (bk.mono (by omega)))
    go_wp2_with (first | (refine wpList_store_mid rfl 28 (.tmp 4) (.tmp 74) rfl (w.heap.size + 1) 0 (setL false noneB).toArray rfl rfl (by simpa [setL_len] using HTz.out) (infoCS.trans (by simp [setL_len])) (setL_one false noneB) ?_))
    have hfin : (w2.setCells (w.heap.size + 1) 0 (setL false noneB).toArray.toList).rangeAt (w.heap.size + 1) 0 (setL false noneB) := by
      have := World.rangeAt_setCells_same w2 (w.heap.size + 1) 0 (setL false noneB) (by rw [setL_len]; exact HTz.out)
      simpa using this
    have hbel : Below w.heap.size w (w2.setCells (w.heap.size + 1) 0 (setL false noneB).toArray.toList) := below_setCells (by omega) _ _ _ HBz.out
    refine bodyPost_ret (v := .tuple #[.agg (setL false noneB).toArray, .int .i64 0]) ?_ rfl ⟨rfl, hbel⟩
    have e9 : (setL false noneB).toArray.toList = setL false noneB := by simp
    rw [e9] at hfin
    generalize w2.setCells (w.heap.size + 1) 0 _ = W9 at hfin ⊢
    have hlv := run_loadVar_mid (P := Tryz.prog) W9 (w.heap.size + 1) 0 28 (setL false noneB) _ hfin Tryz.underlying28 rfl (infoCS.trans (by rw [setL_len]))
    clear hfin hbel e9 HR1
    generalize (setL false noneB).toArray = V9 at hlv ⊢
    simp [results, Tryz.results148, Act.put, Sem.run_bind, asAddr, hlv]
  · have g1 : decide (low < lo) = false := decide_eq_false (by omega)
    have g2 : decide (hi < high) = false := decide_eq_false (by omega)
    have g3 : decide (high < low) = true := decide_eq_true q3
    go_enter Tryz.func148, Tryz.ntmps148
    go_wp2_with fail
    have ea : ((w.alloc (.cells #[.int .i64 lo, .int .i64 hi, .int .i64 k] 209)).alloc (.cells (setL false noneB).toArray 28)).heap[w.heap.size]? = some (.cells #[.int .i64 lo, .int .i64 hi, .int .i64 k] 209) := by
      rw [Below.heap_alloc _ _ _ (by simp)]; exact heap_alloc_new w _
    have ez : ((w.alloc (.cells #[.int .i64 lo, .int .i64 hi, .int .i64 k] 209)).alloc (.cells (setL false noneB).toArray 28)).heap[w.heap.size + 1]? = some (.cells (setL false noneB).toArray 28) := by
      have := heap_alloc_new (w.alloc (.cells #[.int .i64 lo, .int .i64 hi, .int .i64 k] 209)) (.cells (setL false noneB).toArray 28)
      rw [show (w.alloc (.cells #[.int .i64 lo, .int .i64 hi, .int .i64 k] 209)).heap.size = w.heap.size + 1 by simp] at this
      exact this
    have hw0 : Below w.heap.size w ((w.alloc (.cells #[.int .i64 lo, .int .i64 hi, .int .i64 k] 209)).alloc (.cells (setL false noneB).toArray 28)) := (by repeat (first | (with_reducible assumption) | (with_reducible exact Below.refl _ _) | (with_reducible refine below_drewN ?_ _) | (with_reducible refine Below.drew ?_) | (with_reducible refine Below.alloc ?_ (by first | omega | (simp <;> omega)) _)))
    have hz0 : ((w.alloc (.cells #[.int .i64 lo, .int .i64 hi, .int .i64 k] 209)).alloc (.cells (setL false noneB).toArray 28)).heap.size = w.heap.size + 2 := by simp
    refine (pieces_any t 47 ht _).mono ?_
    rintro e w1 ⟨v1, rfl, hown1, hb1⟩
    change Below ((w.alloc (.cells #[.int .i64 lo, .int .i64 hi, .int .i64 k] 209)).alloc (.cells (setL false noneB).toArray 28)).heap.size ((w.alloc (.cells #[.int .i64 lo, .int .i64 hi, .int .i64 k] 209)).alloc (.cells (setL false noneB).toArray 28)) w1 at hb1
    generalize (w.alloc (.cells #[.int .i64 lo, .int .i64 hi, .int .i64 k] 209)).alloc (.cells (setL false noneB).toArray 28) = wa at hb1 ea ez hw0 hz0
    have d0 : w1.cell? ⟨w.heap.size, 0, none⟩ = some (.int .i64 lo) := cellB hb1 (cell_of_row _ _ 0 _ _ (0, 0) ea)
    have d1 : w1.cell? ⟨w.heap.size, 1, none⟩ = some (.int .i64 hi) := cellB hb1 (cell_of_row _ _ 1 _ _ (0, 0) ea)
    have d2 : w1.cell? ⟨w.heap.size, 2, none⟩ = some (.int .i64 k) := cellB hb1 (cell_of_row _ _ 2 _ _ (0, 0) ea)
    have HR1 : Hid (w1.rangeAt (w.heap.size + 1) 0 (setL false noneB)) := Lib.hid (rangeAt_below (fun j v hv => by rw [show 0 + j = j by omega, cell_of_row _ _ j _ _ (0, 0) ez]; simpa using hv) hb1)
    have HT1 : Hid (w1.there (w.heap.size + 1) 0 64) := Lib.hid (there_below (fun j hj => by
      constructor
      · rw [cell_of_row _ _ _ _ _ (0, 0) ez]; simp [setL_len]; omega
      · unfold World.frozen?; rw [ez]; simp) hb1)
    have B0 : Hid (Below w.heap.size w w1) := Lib.hid (hw0.trans (hb1.mono hw0.size))
    have hz1 : w.heap.size + 2 ≤ w1.heap.size := by have := hb1.size; omega
    have bk : Below w1.heap.size w1 w1 := Below.refl _ _
    clear hb1 hw0 ea ez hz0
    rw [show ((47 : UInt8).toNat : Int) = 47 from rfl, HC.out] at hown1
    obtain ⟨g1, cap1, rfl, hc1, hm1, hcell1⟩ := own_open hown1 (by simp)
    have y0 : w1.cell? ⟨g1, 0, none⟩ = some (.string P0) := hcell1 0 (by simp)
    simp only [List.length_cons, List.length_nil, Nat.zero_add, Nat.reduceAdd] at hc1 ⊢
    unfold maxLen at hm1
    clear hown1 hcell1
    go_wp2_with fail
    go_region_held3 (fun w' => w'.cell? ⟨w.heap.size, 0, none⟩ = some (.int .i64 lo) ∧ w'.cell? ⟨w.heap.size, 1, none⟩ = some (.int .i64 hi) ∧ w'.cell? ⟨w.heap.size, 2, none⟩ = some (.int .i64 k) ∧ w'.cell? ⟨g1, 0, none⟩ = some (.string P0)) (first | (refine ⟨?_, ?_, ?_, ?_⟩ <;> (repeat (first | assumption | (with_reducible refine keepD ?_) | (with_reducible refine keepN ?_) | (with_reducible refine keepV ?_)))) | go_keep)
      (first | (go_at_call 157; refine (HE.out _).mono ?_; rintro e w2 ⟨rfl, hb2⟩; have d0 : w2.cell? ⟨w.heap.size, 0, none⟩ = some (.int .i64 lo) := (by refine cellB hb2 ?_; (repeat (first | assumption | (with_reducible refine keepD ?_) | (with_reducible refine keepN ?_) | (with_reducible refine keepV ?_)))); have d1 : w2.cell? ⟨w.heap.size, 1, none⟩ = some (.int .i64 hi) := (by refine cellB hb2 ?_; (repeat (first | assumption | (with_reducible refine keepD ?_) | (with_reducible refine keepN ?_) | (with_reducible refine keepV ?_)))); have d2 : w2.cell? ⟨w.heap.size, 2, none⟩ = some (.int .i64 k) := (by refine cellB hb2 ?_; (repeat (first | assumption | (with_reducible refine keepD ?_) | (with_reducible refine keepN ?_) | (with_reducible refine keepV ?_)))); have y0 : w2.cell? ⟨g1, 0, none⟩ = some (.string P0) := (by refine cellB hb2 ?_; (repeat (first | assumption | (with_reducible refine keepD ?_) | (with_reducible refine keepN ?_) | (with_reducible refine keepV ?_)))); replace bk : Below w1.heap.size w1 w2 := Below.trans (by repeat (first | (with_reducible assumption) | (with_reducible exact Below.refl _ _) | (with_reducible refine below_drewN ?_ _) | (with_reducible refine Below.drew ?_) | (with_reducible refine Below.alloc ?_ (by first | omega | (simp <;> omega)) _))) (hb2.mono (by have := bk.size; first | omega | (simp <;> omega))); clear hb2))
    have HTz : Hid (w2.there (w.heap.size + 1) 0 64) := Lib.hid (there_below HT1.out bk)
    have HBz : Hid (Below w.heap.size w w2) := Lib.hid (B0.out.trans (bk.mono (by omega)))
    go_wp2_with (first | (refine wpList_store_mid rfl 28 (.tmp 4) (.tmp 74) rfl (w.heap.size + 1) 0 (setL false noneB).toArray rfl rfl (by simpa [setL_len] using HTz.out) (infoCS.trans (by simp [setL_len])) (setL_one false noneB) ?_))
    have hfin : (w2.setCells (w.heap.size + 1) 0 (setL false noneB).toArray.toList).rangeAt (w.heap.size + 1) 0 (setL false noneB) := by
      have := World.rangeAt_setCells_same w2 (w.heap.size + 1) 0 (setL false noneB) (by rw [setL_len]; exact HTz.out)
      simpa using this
    have hbel : Below w.heap.size w (w2.setCells (w.heap.size + 1) 0 (setL false noneB).toArray.toList) := below_setCells (by omega) _ _ _ HBz.out
    refine bodyPost_ret (v := .tuple #[.agg (setL false noneB).toArray, .int .i64 0]) ?_ rfl ⟨rfl, hbel⟩
    have e9 : (setL false noneB).toArray.toList = setL false noneB := by simp
    rw [e9] at hfin
    generalize w2.setCells (w.heap.size + 1) 0 _ = W9 at hfin ⊢
    have hlv := run_loadVar_mid (P := Tryz.prog) W9 (w.heap.size + 1) 0 28 (setL false noneB) _ hfin Tryz.underlying28 rfl (infoCS.trans (by rw [setL_len]))
    clear hfin hbel e9 HR1
    generalize (setL false noneB).toArray = V9 at hlv ⊢
    simp [results, Tryz.results148, Act.put, Sem.run_bind, asAddr, hlv]

set_option maxRecDepth 100000 in
set_option maxHeartbeats 4000000 in
theorem item_1f (k lo hi : Nat) (t : ByteArray) (ht : t.size ≤ 2147483654) (P0 : ByteArray) (HC : Hid (cutB 47 t = [P0])) (low high : Nat) (st sg : Bool) (HE : Hid (EndsIs lo hi k P0 low high st sg 1)) (h1 : lo ≤ low) (h2 : high ≤ hi) (h3 : low ≤ high) (h62 : hi ≤ 62) (w : World) :
    Calls Tryz.prog 148 #[.agg #[.int .i64 lo, .int .i64 hi, .int .i64 k], .string t] w (SetV st (steps low high 1) 1 w) := by
  have g1 : decide (low < lo) = false := decide_eq_false (by omega)
  have g2 : decide (hi < high) = false := decide_eq_false (by omega)
  have g3 : decide (high < low) = false := decide_eq_false (by omega)
  cases st
  · skip
    go_enter Tryz.func148, Tryz.ntmps148
    go_wp2_with fail
    have ea : ((w.alloc (.cells #[.int .i64 lo, .int .i64 hi, .int .i64 k] 209)).alloc (.cells (setL false noneB).toArray 28)).heap[w.heap.size]? = some (.cells #[.int .i64 lo, .int .i64 hi, .int .i64 k] 209) := by
      rw [Below.heap_alloc _ _ _ (by simp)]; exact heap_alloc_new w _
    have ez : ((w.alloc (.cells #[.int .i64 lo, .int .i64 hi, .int .i64 k] 209)).alloc (.cells (setL false noneB).toArray 28)).heap[w.heap.size + 1]? = some (.cells (setL false noneB).toArray 28) := by
      have := heap_alloc_new (w.alloc (.cells #[.int .i64 lo, .int .i64 hi, .int .i64 k] 209)) (.cells (setL false noneB).toArray 28)
      rw [show (w.alloc (.cells #[.int .i64 lo, .int .i64 hi, .int .i64 k] 209)).heap.size = w.heap.size + 1 by simp] at this
      exact this
    have hw0 : Below w.heap.size w ((w.alloc (.cells #[.int .i64 lo, .int .i64 hi, .int .i64 k] 209)).alloc (.cells (setL false noneB).toArray 28)) := (by repeat (first | (with_reducible assumption) | (with_reducible exact Below.refl _ _) | (with_reducible refine below_drewN ?_ _) | (with_reducible refine Below.drew ?_) | (with_reducible refine Below.alloc ?_ (by first | omega | (simp <;> omega)) _)))
    have hz0 : ((w.alloc (.cells #[.int .i64 lo, .int .i64 hi, .int .i64 k] 209)).alloc (.cells (setL false noneB).toArray 28)).heap.size = w.heap.size + 2 := by simp
    refine (pieces_any t 47 ht _).mono ?_
    rintro e w1 ⟨v1, rfl, hown1, hb1⟩
    change Below ((w.alloc (.cells #[.int .i64 lo, .int .i64 hi, .int .i64 k] 209)).alloc (.cells (setL false noneB).toArray 28)).heap.size ((w.alloc (.cells #[.int .i64 lo, .int .i64 hi, .int .i64 k] 209)).alloc (.cells (setL false noneB).toArray 28)) w1 at hb1
    generalize (w.alloc (.cells #[.int .i64 lo, .int .i64 hi, .int .i64 k] 209)).alloc (.cells (setL false noneB).toArray 28) = wa at hb1 ea ez hw0 hz0
    have d0 : w1.cell? ⟨w.heap.size, 0, none⟩ = some (.int .i64 lo) := cellB hb1 (cell_of_row _ _ 0 _ _ (0, 0) ea)
    have d1 : w1.cell? ⟨w.heap.size, 1, none⟩ = some (.int .i64 hi) := cellB hb1 (cell_of_row _ _ 1 _ _ (0, 0) ea)
    have d2 : w1.cell? ⟨w.heap.size, 2, none⟩ = some (.int .i64 k) := cellB hb1 (cell_of_row _ _ 2 _ _ (0, 0) ea)
    have HR1 : Hid (w1.rangeAt (w.heap.size + 1) 0 (setL false noneB)) := Lib.hid (rangeAt_below (fun j v hv => by rw [show 0 + j = j by omega, cell_of_row _ _ j _ _ (0, 0) ez]; simpa using hv) hb1)
    have HT1 : Hid (w1.there (w.heap.size + 1) 0 64) := Lib.hid (there_below (fun j hj => by
      constructor
      · rw [cell_of_row _ _ _ _ _ (0, 0) ez]; simp [setL_len]; omega
      · unfold World.frozen?; rw [ez]; simp) hb1)
    have B0 : Hid (Below w.heap.size w w1) := Lib.hid (hw0.trans (hb1.mono hw0.size))
    have hz1 : w.heap.size + 2 ≤ w1.heap.size := by have := hb1.size; omega
    have bk : Below w1.heap.size w1 w1 := Below.refl _ _
    clear hb1 hw0 ea ez hz0
    rw [show ((47 : UInt8).toNat : Int) = 47 from rfl, HC.out] at hown1
    obtain ⟨g1, cap1, rfl, hc1, hm1, hcell1⟩ := own_open hown1 (by simp)
    have y0 : w1.cell? ⟨g1, 0, none⟩ = some (.string P0) := hcell1 0 (by simp)
    simp only [List.length_cons, List.length_nil, Nat.zero_add, Nat.reduceAdd] at hc1 ⊢
    unfold maxLen at hm1
    clear hown1 hcell1
    go_wp2_with fail
    go_region_held3 (fun w' => w'.cell? ⟨w.heap.size, 0, none⟩ = some (.int .i64 lo) ∧ w'.cell? ⟨w.heap.size, 1, none⟩ = some (.int .i64 hi) ∧ w'.cell? ⟨w.heap.size, 2, none⟩ = some (.int .i64 k) ∧ w'.cell? ⟨g1, 0, none⟩ = some (.string P0)) (first | (refine ⟨?_, ?_, ?_, ?_⟩ <;> (repeat (first | assumption | (with_reducible refine keepD ?_) | (with_reducible refine keepN ?_) | (with_reducible refine keepV ?_)))) | go_keep)
      (first | (go_at_call 157; refine (HE.out _).mono ?_; rintro e w2 ⟨rfl, hb2⟩; have d0 : w2.cell? ⟨w.heap.size, 0, none⟩ = some (.int .i64 lo) := (by refine cellB hb2 ?_; (repeat (first | assumption | (with_reducible refine keepD ?_) | (with_reducible refine keepN ?_) | (with_reducible refine keepV ?_)))); have d1 : w2.cell? ⟨w.heap.size, 1, none⟩ = some (.int .i64 hi) := (by refine cellB hb2 ?_; (repeat (first | assumption | (with_reducible refine keepD ?_) | (with_reducible refine keepN ?_) | (with_reducible refine keepV ?_)))); have d2 : w2.cell? ⟨w.heap.size, 2, none⟩ = some (.int .i64 k) := (by refine cellB hb2 ?_; (repeat (first | assumption | (with_reducible refine keepD ?_) | (with_reducible refine keepN ?_) | (with_reducible refine keepV ?_)))); have y0 : w2.cell? ⟨g1, 0, none⟩ = some (.string P0) := (by refine cellB hb2 ?_; (repeat (first | assumption | (with_reducible refine keepD ?_) | (with_reducible refine keepN ?_) | (with_reducible refine keepV ?_)))); replace bk : Below w1.heap.size w1 w2 := Below.trans (by repeat (first | (with_reducible assumption) | (with_reducible exact Below.refl _ _) | (with_reducible refine below_drewN ?_ _) | (with_reducible refine Below.drew ?_) | (with_reducible refine Below.alloc ?_ (by first | omega | (simp <;> omega)) _))) (hb2.mono (by have := bk.size; first | omega | (simp <;> omega))); clear hb2))
    have HTz : Hid (w2.there (w.heap.size + 1) 0 64) := Lib.hid (there_below HT1.out bk)
    have HBz : Hid (Below w.heap.size w w2) := Lib.hid (B0.out.trans (bk.mono (by omega)))
    have hzz : w.heap.size + 2 ≤ w2.heap.size := by have := bk.size; omega
    have HRn : Hid ((w2.alloc (.cells (setL false noneB).toArray 28)).rangeAt w2.heap.size 0 (setL false (fun i => decide (low ≤ i) && decide (i < low) && decide ((i - low) % 1 = 0)))) := Lib.hid (by
      have e : setL false (fun i => decide (low ≤ i) && decide (i < low) && decide ((i - low) % 1 = 0)) = setL false noneB := by
        congr 1
        funext i
        by_cases h : low ≤ i
        · simp [noneB, show ¬ i < low by omega]
        · simp [noneB, h]
      rw [e]
      intro j v hv
      rw [show 0 + j = j by omega, cell_of_row _ _ j _ _ (0, 0) (heap_alloc_new w2 (.cells (setL false noneB).toArray 28))]
      simpa using hv)
    have HTn : Hid ((w2.alloc (.cells (setL false noneB).toArray 28)).there w2.heap.size 0 64) := Lib.hid (there_new _ _ _ _ _ rfl (by simp [setL_len]))
    have HTy : Hid ((w2.alloc (.cells (setL false noneB).toArray 28)).there (w.heap.size + 1) 0 64) := Lib.hid (World.there_alloc HTz.out _)
    have HBy : Hid (Below w.heap.size w (w2.alloc (.cells (setL false noneB).toArray 28))) := Lib.hid (HBz.out.alloc (by omega) _)
    go_wp2_with fail
    obtain ⟨N, hN⟩ : ∃ N, N = w2.heap.size := ⟨_, rfl⟩
    rw [← hN] at HRn HTn ⊢
    have hNz : w.heap.size + 2 ≤ N := by omega
    clear hN
    go_loopw [16] (fun v wr => ∃ n : Nat, low ≤ n ∧ n ≤ high + 1 ∧ v = .int .i64 n ∧ Hid (wr.rangeAt N 0 (setL false (fun i => decide (low ≤ i) && decide (i < n) && decide ((i - low) % 1 = 0)))) ∧ Hid (wr.there N 0 64) ∧ Hid (wr.there (w.heap.size + 1) 0 64) ∧ Hid (Below w.heap.size w wr)) (fun v _ => high + 1 - (intOf v).toNat)
    case atStart => exact ⟨low, Nat.le_refl _, by omega, rfl, HRn, HTn, HTy, HBy⟩
    case round =>
      obtain ⟨n, hn1, hn2, rfl, hR, hT2, hT1, hbr⟩ := hrel
      by_cases hlt : n ≤ high
      · have q8 : decide ((n : Int) ≤ (high : Int)) = true := decide_eq_true (by omega)
        have c1 : wr.cell? ⟨N, 1 + n, none⟩ = some (.bool (decide (low ≤ n) && decide (n < n) && decide ((n - low) % 1 = 0))) := setL_cell hR.out n (by omega)
        have f1 : wr.frozen? ⟨N, 1 + n, none⟩ = false := by
          have := (hT2.out (1 + n) (by omega)).2
          rw [show 0 + (1 + n) = 1 + n by omega] at this
          exact this
        obtain ⟨b, Hb⟩ : ∃ b, Hid (decide ((n - low) % 1 = 0) = b) := ⟨_, Lib.hid rfl⟩
        have hbt : b = true := by rw [← Hb.out]; simp; omega
        subst hbt
        have hR2 := Lib.hid (setL_set (f2 := (fun i => decide (low ≤ i) && decide (i < n + 1) && decide ((i - low) % 1 = 0))) hR.out n (by omega) true (fun i => by
          by_cases h1 : i = n
          · subst h1; rw [if_pos rfl]; simp only [hn1, decide_true, Bool.true_and, show i < i + 1 by omega]; exact Hb.out
          · by_cases h2 : i < n
            · simp [h1, h2, show i < n + 1 by omega]
            · simp [h1, h2, show ¬ i < n + 1 by omega]))
        have hT3 : Hid ((wr.setCell ⟨N, 1 + n, none⟩ (.bool true)).there N 0 64) := Lib.hid (there_set hT2.out)
        have hT4 : Hid ((wr.setCell ⟨N, 1 + n, none⟩ (.bool true)).there (w.heap.size + 1) 0 64) := Lib.hid (there_set hT1.out)
        have hb2 : Hid (Below w.heap.size w (wr.setCell ⟨N, 1 + n, none⟩ (.bool true))) := Lib.hid (Below.setCell hbr.out (by show w.heap.size ≤ N; omega) _)
        go_wp2_with fail
        go_roundw
        case rel => exact ⟨n + 1, by omega, by omega, by go_num, hR2, hT3, hT4, hb2⟩
        case measure => simp [intOf]; omega
      · have e : n = high + 1 := by omega
        subst e
        have q8 : decide (((high + 1 : Nat) : Int) ≤ (high : Int)) = false := decide_eq_false (by omega)
        rw [show (fun i => decide (low ≤ i) && decide (i < high + 1) && decide ((i - low) % 1 = 0)) = steps low high 1 from funext fun i => by
          unfold steps
          by_cases h : i ≤ high
          · simp [h, show i < high + 1 by omega]
          · simp [h, show ¬ i < high + 1 by omega]] at hR
        have c0 : wr.cell? ⟨N, 0, none⟩ = some (.bool false) := hR.out 0 _ rfl
        have f0 : wr.frozen? ⟨N, 0, none⟩ = false := (hT2.out 0 (by omega)).2
        have HR3 : Hid ((wr.setCell ⟨N, 0, none⟩ (.bool false)).rangeAt N 0 (setL false (steps low high 1))) := Lib.hid (setL_star hR.out)
        have HT4 : Hid ((wr.setCell ⟨N, 0, none⟩ (.bool false)).there (w.heap.size + 1) 0 64) := Lib.hid (there_set hT1.out)
        have hb2 : Below w.heap.size w (wr.setCell ⟨N, 0, none⟩ (.bool false)) := Below.setCell hbr.out (by show w.heap.size ≤ N; omega) _
        go_wp2_with (first | (refine wpList_load_mid rfl 28 (.tmp 15) rfl N 0 (by simp [Act.eval]) (setL false (steps low high 1)) _ HR3.out Tryz.underlying28 rfl (infoCS.trans (by rw [setL_len])) ?_) | (refine wpList_store_mid rfl 28 (.tmp 4) (.tmp 96) rfl (w.heap.size + 1) 0 (setL false (steps low high 1)).toArray rfl rfl (by simpa [setL_len] using HT4.out) (infoCS.trans (by simp [setL_len])) (setL_one false _) ?_))
        have hfin : (((wr.setCell ⟨N, 0, none⟩ (.bool false)).setCells (w.heap.size + 1) 0 (setL false (steps low high 1)).toArray.toList)).rangeAt (w.heap.size + 1) 0 (setL false (steps low high 1)) := by
          have := World.rangeAt_setCells_same (wr.setCell ⟨N, 0, none⟩ (.bool false)) (w.heap.size + 1) 0 (setL false (steps low high 1)) (by rw [setL_len]; exact HT4.out)
          simpa using this
        have hbel : Below w.heap.size w ((wr.setCell ⟨N, 0, none⟩ (.bool false)).setCells (w.heap.size + 1) 0 (setL false (steps low high 1)).toArray.toList) := below_setCells (by omega) _ _ _ hb2
        refine bodyPost_ret (v := .tuple #[.agg (setL false (steps low high 1)).toArray, .int .i64 1]) ?_ rfl ⟨rfl, hbel⟩
        have e9 : (setL false (steps low high 1)).toArray.toList = setL false (steps low high 1) := by simp
        rw [e9] at hfin
        generalize (wr.setCell ⟨N, 0, none⟩ (.bool false)).setCells (w.heap.size + 1) 0 (setL false (steps low high 1)) = W9 at hfin ⊢
        have hlv := run_loadVar_mid (P := Tryz.prog) W9 (w.heap.size + 1) 0 28 (setL false (steps low high 1)) _ hfin Tryz.underlying28 rfl (infoCS.trans (by rw [setL_len]))
        clear hR hT1 hT2 HT4 HR3 hfin hbel e9 c0 f0
        generalize (setL false (steps low high 1)).toArray = V9 at hlv ⊢
        simp [results, Tryz.results148, Act.put, Sem.run_bind, asAddr, hlv]
  · skip
    go_enter Tryz.func148, Tryz.ntmps148
    go_wp2_with fail
    have ea : ((w.alloc (.cells #[.int .i64 lo, .int .i64 hi, .int .i64 k] 209)).alloc (.cells (setL false noneB).toArray 28)).heap[w.heap.size]? = some (.cells #[.int .i64 lo, .int .i64 hi, .int .i64 k] 209) := by
      rw [Below.heap_alloc _ _ _ (by simp)]; exact heap_alloc_new w _
    have ez : ((w.alloc (.cells #[.int .i64 lo, .int .i64 hi, .int .i64 k] 209)).alloc (.cells (setL false noneB).toArray 28)).heap[w.heap.size + 1]? = some (.cells (setL false noneB).toArray 28) := by
      have := heap_alloc_new (w.alloc (.cells #[.int .i64 lo, .int .i64 hi, .int .i64 k] 209)) (.cells (setL false noneB).toArray 28)
      rw [show (w.alloc (.cells #[.int .i64 lo, .int .i64 hi, .int .i64 k] 209)).heap.size = w.heap.size + 1 by simp] at this
      exact this
    have hw0 : Below w.heap.size w ((w.alloc (.cells #[.int .i64 lo, .int .i64 hi, .int .i64 k] 209)).alloc (.cells (setL false noneB).toArray 28)) := (by repeat (first | (with_reducible assumption) | (with_reducible exact Below.refl _ _) | (with_reducible refine below_drewN ?_ _) | (with_reducible refine Below.drew ?_) | (with_reducible refine Below.alloc ?_ (by first | omega | (simp <;> omega)) _)))
    have hz0 : ((w.alloc (.cells #[.int .i64 lo, .int .i64 hi, .int .i64 k] 209)).alloc (.cells (setL false noneB).toArray 28)).heap.size = w.heap.size + 2 := by simp
    refine (pieces_any t 47 ht _).mono ?_
    rintro e w1 ⟨v1, rfl, hown1, hb1⟩
    change Below ((w.alloc (.cells #[.int .i64 lo, .int .i64 hi, .int .i64 k] 209)).alloc (.cells (setL false noneB).toArray 28)).heap.size ((w.alloc (.cells #[.int .i64 lo, .int .i64 hi, .int .i64 k] 209)).alloc (.cells (setL false noneB).toArray 28)) w1 at hb1
    generalize (w.alloc (.cells #[.int .i64 lo, .int .i64 hi, .int .i64 k] 209)).alloc (.cells (setL false noneB).toArray 28) = wa at hb1 ea ez hw0 hz0
    have d0 : w1.cell? ⟨w.heap.size, 0, none⟩ = some (.int .i64 lo) := cellB hb1 (cell_of_row _ _ 0 _ _ (0, 0) ea)
    have d1 : w1.cell? ⟨w.heap.size, 1, none⟩ = some (.int .i64 hi) := cellB hb1 (cell_of_row _ _ 1 _ _ (0, 0) ea)
    have d2 : w1.cell? ⟨w.heap.size, 2, none⟩ = some (.int .i64 k) := cellB hb1 (cell_of_row _ _ 2 _ _ (0, 0) ea)
    have HR1 : Hid (w1.rangeAt (w.heap.size + 1) 0 (setL false noneB)) := Lib.hid (rangeAt_below (fun j v hv => by rw [show 0 + j = j by omega, cell_of_row _ _ j _ _ (0, 0) ez]; simpa using hv) hb1)
    have HT1 : Hid (w1.there (w.heap.size + 1) 0 64) := Lib.hid (there_below (fun j hj => by
      constructor
      · rw [cell_of_row _ _ _ _ _ (0, 0) ez]; simp [setL_len]; omega
      · unfold World.frozen?; rw [ez]; simp) hb1)
    have B0 : Hid (Below w.heap.size w w1) := Lib.hid (hw0.trans (hb1.mono hw0.size))
    have hz1 : w.heap.size + 2 ≤ w1.heap.size := by have := hb1.size; omega
    have bk : Below w1.heap.size w1 w1 := Below.refl _ _
    clear hb1 hw0 ea ez hz0
    rw [show ((47 : UInt8).toNat : Int) = 47 from rfl, HC.out] at hown1
    obtain ⟨g1, cap1, rfl, hc1, hm1, hcell1⟩ := own_open hown1 (by simp)
    have y0 : w1.cell? ⟨g1, 0, none⟩ = some (.string P0) := hcell1 0 (by simp)
    simp only [List.length_cons, List.length_nil, Nat.zero_add, Nat.reduceAdd] at hc1 ⊢
    unfold maxLen at hm1
    clear hown1 hcell1
    go_wp2_with fail
    go_region_held3 (fun w' => w'.cell? ⟨w.heap.size, 0, none⟩ = some (.int .i64 lo) ∧ w'.cell? ⟨w.heap.size, 1, none⟩ = some (.int .i64 hi) ∧ w'.cell? ⟨w.heap.size, 2, none⟩ = some (.int .i64 k) ∧ w'.cell? ⟨g1, 0, none⟩ = some (.string P0)) (first | (refine ⟨?_, ?_, ?_, ?_⟩ <;> (repeat (first | assumption | (with_reducible refine keepD ?_) | (with_reducible refine keepN ?_) | (with_reducible refine keepV ?_)))) | go_keep)
      (first | (go_at_call 157; refine (HE.out _).mono ?_; rintro e w2 ⟨rfl, hb2⟩; have d0 : w2.cell? ⟨w.heap.size, 0, none⟩ = some (.int .i64 lo) := (by refine cellB hb2 ?_; (repeat (first | assumption | (with_reducible refine keepD ?_) | (with_reducible refine keepN ?_) | (with_reducible refine keepV ?_)))); have d1 : w2.cell? ⟨w.heap.size, 1, none⟩ = some (.int .i64 hi) := (by refine cellB hb2 ?_; (repeat (first | assumption | (with_reducible refine keepD ?_) | (with_reducible refine keepN ?_) | (with_reducible refine keepV ?_)))); have d2 : w2.cell? ⟨w.heap.size, 2, none⟩ = some (.int .i64 k) := (by refine cellB hb2 ?_; (repeat (first | assumption | (with_reducible refine keepD ?_) | (with_reducible refine keepN ?_) | (with_reducible refine keepV ?_)))); have y0 : w2.cell? ⟨g1, 0, none⟩ = some (.string P0) := (by refine cellB hb2 ?_; (repeat (first | assumption | (with_reducible refine keepD ?_) | (with_reducible refine keepN ?_) | (with_reducible refine keepV ?_)))); replace bk : Below w1.heap.size w1 w2 := Below.trans (by repeat (first | (with_reducible assumption) | (with_reducible exact Below.refl _ _) | (with_reducible refine below_drewN ?_ _) | (with_reducible refine Below.drew ?_) | (with_reducible refine Below.alloc ?_ (by first | omega | (simp <;> omega)) _))) (hb2.mono (by have := bk.size; first | omega | (simp <;> omega))); clear hb2))
    have HTz : Hid (w2.there (w.heap.size + 1) 0 64) := Lib.hid (there_below HT1.out bk)
    have HBz : Hid (Below w.heap.size w w2) := Lib.hid (B0.out.trans (bk.mono (by omega)))
    have hzz : w.heap.size + 2 ≤ w2.heap.size := by have := bk.size; omega
    have HRn : Hid ((w2.alloc (.cells (setL false noneB).toArray 28)).rangeAt w2.heap.size 0 (setL false (fun i => decide (low ≤ i) && decide (i < low) && decide ((i - low) % 1 = 0)))) := Lib.hid (by
      have e : setL false (fun i => decide (low ≤ i) && decide (i < low) && decide ((i - low) % 1 = 0)) = setL false noneB := by
        congr 1
        funext i
        by_cases h : low ≤ i
        · simp [noneB, show ¬ i < low by omega]
        · simp [noneB, h]
      rw [e]
      intro j v hv
      rw [show 0 + j = j by omega, cell_of_row _ _ j _ _ (0, 0) (heap_alloc_new w2 (.cells (setL false noneB).toArray 28))]
      simpa using hv)
    have HTn : Hid ((w2.alloc (.cells (setL false noneB).toArray 28)).there w2.heap.size 0 64) := Lib.hid (there_new _ _ _ _ _ rfl (by simp [setL_len]))
    have HTy : Hid ((w2.alloc (.cells (setL false noneB).toArray 28)).there (w.heap.size + 1) 0 64) := Lib.hid (World.there_alloc HTz.out _)
    have HBy : Hid (Below w.heap.size w (w2.alloc (.cells (setL false noneB).toArray 28))) := Lib.hid (HBz.out.alloc (by omega) _)
    go_wp2_with fail
    obtain ⟨N, hN⟩ : ∃ N, N = w2.heap.size := ⟨_, rfl⟩
    rw [← hN] at HRn HTn ⊢
    have hNz : w.heap.size + 2 ≤ N := by omega
    clear hN
    go_loopw [16] (fun v wr => ∃ n : Nat, low ≤ n ∧ n ≤ high + 1 ∧ v = .int .i64 n ∧ Hid (wr.rangeAt N 0 (setL false (fun i => decide (low ≤ i) && decide (i < n) && decide ((i - low) % 1 = 0)))) ∧ Hid (wr.there N 0 64) ∧ Hid (wr.there (w.heap.size + 1) 0 64) ∧ Hid (Below w.heap.size w wr)) (fun v _ => high + 1 - (intOf v).toNat)
    case atStart => exact ⟨low, Nat.le_refl _, by omega, rfl, HRn, HTn, HTy, HBy⟩
    case round =>
      obtain ⟨n, hn1, hn2, rfl, hR, hT2, hT1, hbr⟩ := hrel
      by_cases hlt : n ≤ high
      · have q8 : decide ((n : Int) ≤ (high : Int)) = true := decide_eq_true (by omega)
        have c1 : wr.cell? ⟨N, 1 + n, none⟩ = some (.bool (decide (low ≤ n) && decide (n < n) && decide ((n - low) % 1 = 0))) := setL_cell hR.out n (by omega)
        have f1 : wr.frozen? ⟨N, 1 + n, none⟩ = false := by
          have := (hT2.out (1 + n) (by omega)).2
          rw [show 0 + (1 + n) = 1 + n by omega] at this
          exact this
        obtain ⟨b, Hb⟩ : ∃ b, Hid (decide ((n - low) % 1 = 0) = b) := ⟨_, Lib.hid rfl⟩
        have hbt : b = true := by rw [← Hb.out]; simp; omega
        subst hbt
        have hR2 := Lib.hid (setL_set (f2 := (fun i => decide (low ≤ i) && decide (i < n + 1) && decide ((i - low) % 1 = 0))) hR.out n (by omega) true (fun i => by
          by_cases h1 : i = n
          · subst h1; rw [if_pos rfl]; simp only [hn1, decide_true, Bool.true_and, show i < i + 1 by omega]; exact Hb.out
          · by_cases h2 : i < n
            · simp [h1, h2, show i < n + 1 by omega]
            · simp [h1, h2, show ¬ i < n + 1 by omega]))
        have hT3 : Hid ((wr.setCell ⟨N, 1 + n, none⟩ (.bool true)).there N 0 64) := Lib.hid (there_set hT2.out)
        have hT4 : Hid ((wr.setCell ⟨N, 1 + n, none⟩ (.bool true)).there (w.heap.size + 1) 0 64) := Lib.hid (there_set hT1.out)
        have hb2 : Hid (Below w.heap.size w (wr.setCell ⟨N, 1 + n, none⟩ (.bool true))) := Lib.hid (Below.setCell hbr.out (by show w.heap.size ≤ N; omega) _)
        go_wp2_with fail
        go_roundw
        case rel => exact ⟨n + 1, by omega, by omega, by go_num, hR2, hT3, hT4, hb2⟩
        case measure => simp [intOf]; omega
      · have e : n = high + 1 := by omega
        subst e
        have q8 : decide (((high + 1 : Nat) : Int) ≤ (high : Int)) = false := decide_eq_false (by omega)
        rw [show (fun i => decide (low ≤ i) && decide (i < high + 1) && decide ((i - low) % 1 = 0)) = steps low high 1 from funext fun i => by
          unfold steps
          by_cases h : i ≤ high
          · simp [h, show i < high + 1 by omega]
          · simp [h, show ¬ i < high + 1 by omega]] at hR
        have c0 : wr.cell? ⟨N, 0, none⟩ = some (.bool false) := hR.out 0 _ rfl
        have f0 : wr.frozen? ⟨N, 0, none⟩ = false := (hT2.out 0 (by omega)).2
        have HR3 : Hid ((wr.setCell ⟨N, 0, none⟩ (.bool true)).rangeAt N 0 (setL true (steps low high 1))) := Lib.hid (setL_star hR.out)
        have HT4 : Hid ((wr.setCell ⟨N, 0, none⟩ (.bool true)).there (w.heap.size + 1) 0 64) := Lib.hid (there_set hT1.out)
        have hb2 : Below w.heap.size w (wr.setCell ⟨N, 0, none⟩ (.bool true)) := Below.setCell hbr.out (by show w.heap.size ≤ N; omega) _
        go_wp2_with (first | (refine wpList_load_mid rfl 28 (.tmp 15) rfl N 0 (by simp [Act.eval]) (setL true (steps low high 1)) _ HR3.out Tryz.underlying28 rfl (infoCS.trans (by rw [setL_len])) ?_) | (refine wpList_store_mid rfl 28 (.tmp 4) (.tmp 96) rfl (w.heap.size + 1) 0 (setL true (steps low high 1)).toArray rfl rfl (by simpa [setL_len] using HT4.out) (infoCS.trans (by simp [setL_len])) (setL_one true _) ?_))
        have hfin : (((wr.setCell ⟨N, 0, none⟩ (.bool true)).setCells (w.heap.size + 1) 0 (setL true (steps low high 1)).toArray.toList)).rangeAt (w.heap.size + 1) 0 (setL true (steps low high 1)) := by
          have := World.rangeAt_setCells_same (wr.setCell ⟨N, 0, none⟩ (.bool true)) (w.heap.size + 1) 0 (setL true (steps low high 1)) (by rw [setL_len]; exact HT4.out)
          simpa using this
        have hbel : Below w.heap.size w ((wr.setCell ⟨N, 0, none⟩ (.bool true)).setCells (w.heap.size + 1) 0 (setL true (steps low high 1)).toArray.toList) := below_setCells (by omega) _ _ _ hb2
        refine bodyPost_ret (v := .tuple #[.agg (setL true (steps low high 1)).toArray, .int .i64 1]) ?_ rfl ⟨rfl, hbel⟩
        have e9 : (setL true (steps low high 1)).toArray.toList = setL true (steps low high 1) := by simp
        rw [e9] at hfin
        generalize (wr.setCell ⟨N, 0, none⟩ (.bool true)).setCells (w.heap.size + 1) 0 (setL true (steps low high 1)) = W9 at hfin ⊢
        have hlv := run_loadVar_mid (P := Tryz.prog) W9 (w.heap.size + 1) 0 28 (setL true (steps low high 1)) _ hfin Tryz.underlying28 rfl (infoCS.trans (by rw [setL_len]))
        clear hR hT1 hT2 HT4 HR3 hfin hbel e9 c0 f0
        generalize (setL true (steps low high 1)).toArray = V9 at hlv ⊢
        simp [results, Tryz.results148, Act.put, Sem.run_bind, asAddr, hlv]

set_option maxRecDepth 100000 in
set_option maxHeartbeats 4000000 in
theorem item_2v (k lo hi : Nat) (t : ByteArray) (ht : t.size ≤ 2147483654) (P0 P1 : ByteArray) (HC : Hid (cutB 47 t = [P0, P1])) (low high0 v s u : Nat) (hv : v ≤ 2) (hu : u ≤ 2) (st sg : Bool) (HE : Hid (EndsIs lo hi k P0 low high0 st sg v)) (HS : Hid (StepIs P1 (s, u))) (high : Nat) (hH : Hid (high = if (sg && !st) = true then hi else high0)) (hw : worseN v u ≠ 1) (w : World) :
    Calls Tryz.prog 148 #[.agg #[.int .i64 lo, .int .i64 hi, .int .i64 k], .string t] w (SetV false noneB (worseN v u) w) := by
  obtain ⟨x, HW⟩ : ∃ x, Hid (worseN v u = x) := ⟨_, Lib.hid rfl⟩
  rw [HW.out] at hw ⊢
  have qv : ((x : Int) != 1) = true := by simp only [bne_iff_ne]; omega
  have hH0 := hH.out
  clear hH
  cases sg
  · cases st
    · simp at hH0
      subst hH0
      go_enter Tryz.func148, Tryz.ntmps148
      go_wp2_with fail
      have ea : ((w.alloc (.cells #[.int .i64 lo, .int .i64 hi, .int .i64 k] 209)).alloc (.cells (setL false noneB).toArray 28)).heap[w.heap.size]? = some (.cells #[.int .i64 lo, .int .i64 hi, .int .i64 k] 209) := by
        rw [Below.heap_alloc _ _ _ (by simp)]; exact heap_alloc_new w _
      have ez : ((w.alloc (.cells #[.int .i64 lo, .int .i64 hi, .int .i64 k] 209)).alloc (.cells (setL false noneB).toArray 28)).heap[w.heap.size + 1]? = some (.cells (setL false noneB).toArray 28) := by
        have := heap_alloc_new (w.alloc (.cells #[.int .i64 lo, .int .i64 hi, .int .i64 k] 209)) (.cells (setL false noneB).toArray 28)
        rw [show (w.alloc (.cells #[.int .i64 lo, .int .i64 hi, .int .i64 k] 209)).heap.size = w.heap.size + 1 by simp] at this
        exact this
      have hw0 : Below w.heap.size w ((w.alloc (.cells #[.int .i64 lo, .int .i64 hi, .int .i64 k] 209)).alloc (.cells (setL false noneB).toArray 28)) := (by repeat (first | (with_reducible assumption) | (with_reducible exact Below.refl _ _) | (with_reducible refine below_drewN ?_ _) | (with_reducible refine Below.drew ?_) | (with_reducible refine Below.alloc ?_ (by first | omega | (simp <;> omega)) _)))
      have hz0 : ((w.alloc (.cells #[.int .i64 lo, .int .i64 hi, .int .i64 k] 209)).alloc (.cells (setL false noneB).toArray 28)).heap.size = w.heap.size + 2 := by simp
      refine (pieces_any t 47 ht _).mono ?_
      rintro e w1 ⟨v1, rfl, hown1, hb1⟩
      change Below ((w.alloc (.cells #[.int .i64 lo, .int .i64 hi, .int .i64 k] 209)).alloc (.cells (setL false noneB).toArray 28)).heap.size ((w.alloc (.cells #[.int .i64 lo, .int .i64 hi, .int .i64 k] 209)).alloc (.cells (setL false noneB).toArray 28)) w1 at hb1
      generalize (w.alloc (.cells #[.int .i64 lo, .int .i64 hi, .int .i64 k] 209)).alloc (.cells (setL false noneB).toArray 28) = wa at hb1 ea ez hw0 hz0
      have d0 : w1.cell? ⟨w.heap.size, 0, none⟩ = some (.int .i64 lo) := cellB hb1 (cell_of_row _ _ 0 _ _ (0, 0) ea)
      have d1 : w1.cell? ⟨w.heap.size, 1, none⟩ = some (.int .i64 hi) := cellB hb1 (cell_of_row _ _ 1 _ _ (0, 0) ea)
      have d2 : w1.cell? ⟨w.heap.size, 2, none⟩ = some (.int .i64 k) := cellB hb1 (cell_of_row _ _ 2 _ _ (0, 0) ea)
      have HR1 : Hid (w1.rangeAt (w.heap.size + 1) 0 (setL false noneB)) := Lib.hid (rangeAt_below (fun j v hv => by rw [show 0 + j = j by omega, cell_of_row _ _ j _ _ (0, 0) ez]; simpa using hv) hb1)
      have HT1 : Hid (w1.there (w.heap.size + 1) 0 64) := Lib.hid (there_below (fun j hj => by
        constructor
        · rw [cell_of_row _ _ _ _ _ (0, 0) ez]; simp [setL_len]; omega
        · unfold World.frozen?; rw [ez]; simp) hb1)
      have B0 : Hid (Below w.heap.size w w1) := Lib.hid (hw0.trans (hb1.mono hw0.size))
      have hz1 : w.heap.size + 2 ≤ w1.heap.size := by have := hb1.size; omega
      have bk : Below w1.heap.size w1 w1 := Below.refl _ _
      clear hb1 hw0 ea ez hz0
      rw [show ((47 : UInt8).toNat : Int) = 47 from rfl, HC.out] at hown1
      obtain ⟨g1, cap1, rfl, hc1, hm1, hcell1⟩ := own_open hown1 (by simp)
      have y0 : w1.cell? ⟨g1, 0, none⟩ = some (.string P0) := hcell1 0 (by simp)
      have y1 : w1.cell? ⟨g1, 1, none⟩ = some (.string P1) := hcell1 1 (by simp)
      simp only [List.length_cons, List.length_nil, Nat.zero_add, Nat.reduceAdd] at hc1 ⊢
      unfold maxLen at hm1
      clear hown1 hcell1
      go_wp2_with fail
      go_region_held3 (fun w' => w'.cell? ⟨w.heap.size, 0, none⟩ = some (.int .i64 lo) ∧ w'.cell? ⟨w.heap.size, 1, none⟩ = some (.int .i64 hi) ∧ w'.cell? ⟨w.heap.size, 2, none⟩ = some (.int .i64 k) ∧ w'.cell? ⟨g1, 0, none⟩ = some (.string P0) ∧ w'.cell? ⟨g1, 1, none⟩ = some (.string P1)) (first | (refine ⟨?_, ?_, ?_, ?_, ?_⟩ <;> (repeat (first | assumption | (with_reducible refine keepD ?_) | (with_reducible refine keepN ?_) | (with_reducible refine keepV ?_)))) | go_keep)
        (first | (go_at_call 157; refine (HE.out _).mono ?_; rintro e w2 ⟨rfl, hb2⟩; have d0 : w2.cell? ⟨w.heap.size, 0, none⟩ = some (.int .i64 lo) := (by refine cellB hb2 ?_; (repeat (first | assumption | (with_reducible refine keepD ?_) | (with_reducible refine keepN ?_) | (with_reducible refine keepV ?_)))); have d1 : w2.cell? ⟨w.heap.size, 1, none⟩ = some (.int .i64 hi) := (by refine cellB hb2 ?_; (repeat (first | assumption | (with_reducible refine keepD ?_) | (with_reducible refine keepN ?_) | (with_reducible refine keepV ?_)))); have d2 : w2.cell? ⟨w.heap.size, 2, none⟩ = some (.int .i64 k) := (by refine cellB hb2 ?_; (repeat (first | assumption | (with_reducible refine keepD ?_) | (with_reducible refine keepN ?_) | (with_reducible refine keepV ?_)))); have y0 : w2.cell? ⟨g1, 0, none⟩ = some (.string P0) := (by refine cellB hb2 ?_; (repeat (first | assumption | (with_reducible refine keepD ?_) | (with_reducible refine keepN ?_) | (with_reducible refine keepV ?_)))); have y1 : w2.cell? ⟨g1, 1, none⟩ = some (.string P1) := (by refine cellB hb2 ?_; (repeat (first | assumption | (with_reducible refine keepD ?_) | (with_reducible refine keepN ?_) | (with_reducible refine keepV ?_)))); replace bk : Below w1.heap.size w1 w2 := Below.trans (by repeat (first | (with_reducible assumption) | (with_reducible exact Below.refl _ _) | (with_reducible refine below_drewN ?_ _) | (with_reducible refine Below.drew ?_) | (with_reducible refine Below.alloc ?_ (by first | omega | (simp <;> omega)) _))) (hb2.mono (by have := bk.size; first | omega | (simp <;> omega))); clear hb2))
      go_wp2_with fail
      refine (HS.out _).mono ?_
      rintro e w3 ⟨rfl, hb3⟩
      have d0 : w3.cell? ⟨w.heap.size, 0, none⟩ = some (.int .i64 lo) := cellB hb3 d0
      have d1 : w3.cell? ⟨w.heap.size, 1, none⟩ = some (.int .i64 hi) := cellB hb3 d1
      have d2 : w3.cell? ⟨w.heap.size, 2, none⟩ = some (.int .i64 k) := cellB hb3 d2
      have y0 : w3.cell? ⟨g1, 0, none⟩ = some (.string P0) := cellB hb3 y0
      have y1 : w3.cell? ⟨g1, 1, none⟩ = some (.string P1) := cellB hb3 y1
      replace bk : Below w1.heap.size w1 w3 := bk.trans (hb3.mono bk.size)
      clear hb3
      go_wp2_with (first | (go_at_call 84; refine (worse_any v u hv hu _).mono ?_; rintro e w9 ⟨rfl, rfl⟩; (try rw [HW.out]); refine stop_here ?_))
      unfold Stop
      have HTz : Hid (w3.there (w.heap.size + 1) 0 64) := Lib.hid (there_below HT1.out bk)
      have HBz : Hid (Below w.heap.size w w3) := Lib.hid (B0.out.trans (bk.mono (by omega)))
      go_wp2_with (first | (refine wpList_store_mid rfl 28 (.tmp 4) (.tmp 57) rfl (w.heap.size + 1) 0 (setL false noneB).toArray rfl rfl (by simpa [setL_len] using HTz.out) (infoCS.trans (by simp [setL_len])) (setL_one false noneB) ?_))
      have hfin : (w3.setCells (w.heap.size + 1) 0 (setL false noneB).toArray.toList).rangeAt (w.heap.size + 1) 0 (setL false noneB) := by
        have := World.rangeAt_setCells_same w3 (w.heap.size + 1) 0 (setL false noneB) (by rw [setL_len]; exact HTz.out)
        simpa using this
      have hbel : Below w.heap.size w (w3.setCells (w.heap.size + 1) 0 (setL false noneB).toArray.toList) := below_setCells (by omega) _ _ _ HBz.out
      refine bodyPost_ret (v := .tuple #[.agg (setL false noneB).toArray, .int .i64 x]) ?_ rfl ⟨rfl, hbel⟩
      have e9 : (setL false noneB).toArray.toList = setL false noneB := by simp
      rw [e9] at hfin
      generalize w3.setCells (w.heap.size + 1) 0 _ = W9 at hfin ⊢
      have hlv := run_loadVar_mid (P := Tryz.prog) W9 (w.heap.size + 1) 0 28 (setL false noneB) _ hfin Tryz.underlying28 rfl (infoCS.trans (by rw [setL_len]))
      clear hfin hbel e9 HR1
      generalize (setL false noneB).toArray = V9 at hlv ⊢
      simp [results, Tryz.results148, Act.put, Sem.run_bind, asAddr, hlv]
    · simp at hH0
      subst hH0
      go_enter Tryz.func148, Tryz.ntmps148
      go_wp2_with fail
      have ea : ((w.alloc (.cells #[.int .i64 lo, .int .i64 hi, .int .i64 k] 209)).alloc (.cells (setL false noneB).toArray 28)).heap[w.heap.size]? = some (.cells #[.int .i64 lo, .int .i64 hi, .int .i64 k] 209) := by
        rw [Below.heap_alloc _ _ _ (by simp)]; exact heap_alloc_new w _
      have ez : ((w.alloc (.cells #[.int .i64 lo, .int .i64 hi, .int .i64 k] 209)).alloc (.cells (setL false noneB).toArray 28)).heap[w.heap.size + 1]? = some (.cells (setL false noneB).toArray 28) := by
        have := heap_alloc_new (w.alloc (.cells #[.int .i64 lo, .int .i64 hi, .int .i64 k] 209)) (.cells (setL false noneB).toArray 28)
        rw [show (w.alloc (.cells #[.int .i64 lo, .int .i64 hi, .int .i64 k] 209)).heap.size = w.heap.size + 1 by simp] at this
        exact this
      have hw0 : Below w.heap.size w ((w.alloc (.cells #[.int .i64 lo, .int .i64 hi, .int .i64 k] 209)).alloc (.cells (setL false noneB).toArray 28)) := (by repeat (first | (with_reducible assumption) | (with_reducible exact Below.refl _ _) | (with_reducible refine below_drewN ?_ _) | (with_reducible refine Below.drew ?_) | (with_reducible refine Below.alloc ?_ (by first | omega | (simp <;> omega)) _)))
      have hz0 : ((w.alloc (.cells #[.int .i64 lo, .int .i64 hi, .int .i64 k] 209)).alloc (.cells (setL false noneB).toArray 28)).heap.size = w.heap.size + 2 := by simp
      refine (pieces_any t 47 ht _).mono ?_
      rintro e w1 ⟨v1, rfl, hown1, hb1⟩
      change Below ((w.alloc (.cells #[.int .i64 lo, .int .i64 hi, .int .i64 k] 209)).alloc (.cells (setL false noneB).toArray 28)).heap.size ((w.alloc (.cells #[.int .i64 lo, .int .i64 hi, .int .i64 k] 209)).alloc (.cells (setL false noneB).toArray 28)) w1 at hb1
      generalize (w.alloc (.cells #[.int .i64 lo, .int .i64 hi, .int .i64 k] 209)).alloc (.cells (setL false noneB).toArray 28) = wa at hb1 ea ez hw0 hz0
      have d0 : w1.cell? ⟨w.heap.size, 0, none⟩ = some (.int .i64 lo) := cellB hb1 (cell_of_row _ _ 0 _ _ (0, 0) ea)
      have d1 : w1.cell? ⟨w.heap.size, 1, none⟩ = some (.int .i64 hi) := cellB hb1 (cell_of_row _ _ 1 _ _ (0, 0) ea)
      have d2 : w1.cell? ⟨w.heap.size, 2, none⟩ = some (.int .i64 k) := cellB hb1 (cell_of_row _ _ 2 _ _ (0, 0) ea)
      have HR1 : Hid (w1.rangeAt (w.heap.size + 1) 0 (setL false noneB)) := Lib.hid (rangeAt_below (fun j v hv => by rw [show 0 + j = j by omega, cell_of_row _ _ j _ _ (0, 0) ez]; simpa using hv) hb1)
      have HT1 : Hid (w1.there (w.heap.size + 1) 0 64) := Lib.hid (there_below (fun j hj => by
        constructor
        · rw [cell_of_row _ _ _ _ _ (0, 0) ez]; simp [setL_len]; omega
        · unfold World.frozen?; rw [ez]; simp) hb1)
      have B0 : Hid (Below w.heap.size w w1) := Lib.hid (hw0.trans (hb1.mono hw0.size))
      have hz1 : w.heap.size + 2 ≤ w1.heap.size := by have := hb1.size; omega
      have bk : Below w1.heap.size w1 w1 := Below.refl _ _
      clear hb1 hw0 ea ez hz0
      rw [show ((47 : UInt8).toNat : Int) = 47 from rfl, HC.out] at hown1
      obtain ⟨g1, cap1, rfl, hc1, hm1, hcell1⟩ := own_open hown1 (by simp)
      have y0 : w1.cell? ⟨g1, 0, none⟩ = some (.string P0) := hcell1 0 (by simp)
      have y1 : w1.cell? ⟨g1, 1, none⟩ = some (.string P1) := hcell1 1 (by simp)
      simp only [List.length_cons, List.length_nil, Nat.zero_add, Nat.reduceAdd] at hc1 ⊢
      unfold maxLen at hm1
      clear hown1 hcell1
      go_wp2_with fail
      go_region_held3 (fun w' => w'.cell? ⟨w.heap.size, 0, none⟩ = some (.int .i64 lo) ∧ w'.cell? ⟨w.heap.size, 1, none⟩ = some (.int .i64 hi) ∧ w'.cell? ⟨w.heap.size, 2, none⟩ = some (.int .i64 k) ∧ w'.cell? ⟨g1, 0, none⟩ = some (.string P0) ∧ w'.cell? ⟨g1, 1, none⟩ = some (.string P1)) (first | (refine ⟨?_, ?_, ?_, ?_, ?_⟩ <;> (repeat (first | assumption | (with_reducible refine keepD ?_) | (with_reducible refine keepN ?_) | (with_reducible refine keepV ?_)))) | go_keep)
        (first | (go_at_call 157; refine (HE.out _).mono ?_; rintro e w2 ⟨rfl, hb2⟩; have d0 : w2.cell? ⟨w.heap.size, 0, none⟩ = some (.int .i64 lo) := (by refine cellB hb2 ?_; (repeat (first | assumption | (with_reducible refine keepD ?_) | (with_reducible refine keepN ?_) | (with_reducible refine keepV ?_)))); have d1 : w2.cell? ⟨w.heap.size, 1, none⟩ = some (.int .i64 hi) := (by refine cellB hb2 ?_; (repeat (first | assumption | (with_reducible refine keepD ?_) | (with_reducible refine keepN ?_) | (with_reducible refine keepV ?_)))); have d2 : w2.cell? ⟨w.heap.size, 2, none⟩ = some (.int .i64 k) := (by refine cellB hb2 ?_; (repeat (first | assumption | (with_reducible refine keepD ?_) | (with_reducible refine keepN ?_) | (with_reducible refine keepV ?_)))); have y0 : w2.cell? ⟨g1, 0, none⟩ = some (.string P0) := (by refine cellB hb2 ?_; (repeat (first | assumption | (with_reducible refine keepD ?_) | (with_reducible refine keepN ?_) | (with_reducible refine keepV ?_)))); have y1 : w2.cell? ⟨g1, 1, none⟩ = some (.string P1) := (by refine cellB hb2 ?_; (repeat (first | assumption | (with_reducible refine keepD ?_) | (with_reducible refine keepN ?_) | (with_reducible refine keepV ?_)))); replace bk : Below w1.heap.size w1 w2 := Below.trans (by repeat (first | (with_reducible assumption) | (with_reducible exact Below.refl _ _) | (with_reducible refine below_drewN ?_ _) | (with_reducible refine Below.drew ?_) | (with_reducible refine Below.alloc ?_ (by first | omega | (simp <;> omega)) _))) (hb2.mono (by have := bk.size; first | omega | (simp <;> omega))); clear hb2))
      go_wp2_with fail
      refine (HS.out _).mono ?_
      rintro e w3 ⟨rfl, hb3⟩
      have d0 : w3.cell? ⟨w.heap.size, 0, none⟩ = some (.int .i64 lo) := cellB hb3 d0
      have d1 : w3.cell? ⟨w.heap.size, 1, none⟩ = some (.int .i64 hi) := cellB hb3 d1
      have d2 : w3.cell? ⟨w.heap.size, 2, none⟩ = some (.int .i64 k) := cellB hb3 d2
      have y0 : w3.cell? ⟨g1, 0, none⟩ = some (.string P0) := cellB hb3 y0
      have y1 : w3.cell? ⟨g1, 1, none⟩ = some (.string P1) := cellB hb3 y1
      replace bk : Below w1.heap.size w1 w3 := bk.trans (hb3.mono bk.size)
      clear hb3
      go_wp2_with (first | (go_at_call 84; refine (worse_any v u hv hu _).mono ?_; rintro e w9 ⟨rfl, rfl⟩; (try rw [HW.out]); refine stop_here ?_))
      unfold Stop
      have HTz : Hid (w3.there (w.heap.size + 1) 0 64) := Lib.hid (there_below HT1.out bk)
      have HBz : Hid (Below w.heap.size w w3) := Lib.hid (B0.out.trans (bk.mono (by omega)))
      go_wp2_with (first | (refine wpList_store_mid rfl 28 (.tmp 4) (.tmp 57) rfl (w.heap.size + 1) 0 (setL false noneB).toArray rfl rfl (by simpa [setL_len] using HTz.out) (infoCS.trans (by simp [setL_len])) (setL_one false noneB) ?_))
      have hfin : (w3.setCells (w.heap.size + 1) 0 (setL false noneB).toArray.toList).rangeAt (w.heap.size + 1) 0 (setL false noneB) := by
        have := World.rangeAt_setCells_same w3 (w.heap.size + 1) 0 (setL false noneB) (by rw [setL_len]; exact HTz.out)
        simpa using this
      have hbel : Below w.heap.size w (w3.setCells (w.heap.size + 1) 0 (setL false noneB).toArray.toList) := below_setCells (by omega) _ _ _ HBz.out
      refine bodyPost_ret (v := .tuple #[.agg (setL false noneB).toArray, .int .i64 x]) ?_ rfl ⟨rfl, hbel⟩
      have e9 : (setL false noneB).toArray.toList = setL false noneB := by simp
      rw [e9] at hfin
      generalize w3.setCells (w.heap.size + 1) 0 _ = W9 at hfin ⊢
      have hlv := run_loadVar_mid (P := Tryz.prog) W9 (w.heap.size + 1) 0 28 (setL false noneB) _ hfin Tryz.underlying28 rfl (infoCS.trans (by rw [setL_len]))
      clear hfin hbel e9 HR1
      generalize (setL false noneB).toArray = V9 at hlv ⊢
      simp [results, Tryz.results148, Act.put, Sem.run_bind, asAddr, hlv]
  · cases st
    · simp at hH0
      subst hH0
      go_enter Tryz.func148, Tryz.ntmps148
      go_wp2_with fail
      have ea : ((w.alloc (.cells #[.int .i64 lo, .int .i64 high, .int .i64 k] 209)).alloc (.cells (setL false noneB).toArray 28)).heap[w.heap.size]? = some (.cells #[.int .i64 lo, .int .i64 high, .int .i64 k] 209) := by
        rw [Below.heap_alloc _ _ _ (by simp)]; exact heap_alloc_new w _
      have ez : ((w.alloc (.cells #[.int .i64 lo, .int .i64 high, .int .i64 k] 209)).alloc (.cells (setL false noneB).toArray 28)).heap[w.heap.size + 1]? = some (.cells (setL false noneB).toArray 28) := by
        have := heap_alloc_new (w.alloc (.cells #[.int .i64 lo, .int .i64 high, .int .i64 k] 209)) (.cells (setL false noneB).toArray 28)
        rw [show (w.alloc (.cells #[.int .i64 lo, .int .i64 high, .int .i64 k] 209)).heap.size = w.heap.size + 1 by simp] at this
        exact this
      have hw0 : Below w.heap.size w ((w.alloc (.cells #[.int .i64 lo, .int .i64 high, .int .i64 k] 209)).alloc (.cells (setL false noneB).toArray 28)) := (by repeat (first | (with_reducible assumption) | (with_reducible exact Below.refl _ _) | (with_reducible refine below_drewN ?_ _) | (with_reducible refine Below.drew ?_) | (with_reducible refine Below.alloc ?_ (by first | omega | (simp <;> omega)) _)))
      have hz0 : ((w.alloc (.cells #[.int .i64 lo, .int .i64 high, .int .i64 k] 209)).alloc (.cells (setL false noneB).toArray 28)).heap.size = w.heap.size + 2 := by simp
      refine (pieces_any t 47 ht _).mono ?_
      rintro e w1 ⟨v1, rfl, hown1, hb1⟩
      change Below ((w.alloc (.cells #[.int .i64 lo, .int .i64 high, .int .i64 k] 209)).alloc (.cells (setL false noneB).toArray 28)).heap.size ((w.alloc (.cells #[.int .i64 lo, .int .i64 high, .int .i64 k] 209)).alloc (.cells (setL false noneB).toArray 28)) w1 at hb1
      generalize (w.alloc (.cells #[.int .i64 lo, .int .i64 high, .int .i64 k] 209)).alloc (.cells (setL false noneB).toArray 28) = wa at hb1 ea ez hw0 hz0
      have d0 : w1.cell? ⟨w.heap.size, 0, none⟩ = some (.int .i64 lo) := cellB hb1 (cell_of_row _ _ 0 _ _ (0, 0) ea)
      have d1 : w1.cell? ⟨w.heap.size, 1, none⟩ = some (.int .i64 high) := cellB hb1 (cell_of_row _ _ 1 _ _ (0, 0) ea)
      have d2 : w1.cell? ⟨w.heap.size, 2, none⟩ = some (.int .i64 k) := cellB hb1 (cell_of_row _ _ 2 _ _ (0, 0) ea)
      have HR1 : Hid (w1.rangeAt (w.heap.size + 1) 0 (setL false noneB)) := Lib.hid (rangeAt_below (fun j v hv => by rw [show 0 + j = j by omega, cell_of_row _ _ j _ _ (0, 0) ez]; simpa using hv) hb1)
      have HT1 : Hid (w1.there (w.heap.size + 1) 0 64) := Lib.hid (there_below (fun j hj => by
        constructor
        · rw [cell_of_row _ _ _ _ _ (0, 0) ez]; simp [setL_len]; omega
        · unfold World.frozen?; rw [ez]; simp) hb1)
      have B0 : Hid (Below w.heap.size w w1) := Lib.hid (hw0.trans (hb1.mono hw0.size))
      have hz1 : w.heap.size + 2 ≤ w1.heap.size := by have := hb1.size; omega
      have bk : Below w1.heap.size w1 w1 := Below.refl _ _
      clear hb1 hw0 ea ez hz0
      rw [show ((47 : UInt8).toNat : Int) = 47 from rfl, HC.out] at hown1
      obtain ⟨g1, cap1, rfl, hc1, hm1, hcell1⟩ := own_open hown1 (by simp)
      have y0 : w1.cell? ⟨g1, 0, none⟩ = some (.string P0) := hcell1 0 (by simp)
      have y1 : w1.cell? ⟨g1, 1, none⟩ = some (.string P1) := hcell1 1 (by simp)
      simp only [List.length_cons, List.length_nil, Nat.zero_add, Nat.reduceAdd] at hc1 ⊢
      unfold maxLen at hm1
      clear hown1 hcell1
      go_wp2_with fail
      go_region_held3 (fun w' => w'.cell? ⟨w.heap.size, 0, none⟩ = some (.int .i64 lo) ∧ w'.cell? ⟨w.heap.size, 1, none⟩ = some (.int .i64 high) ∧ w'.cell? ⟨w.heap.size, 2, none⟩ = some (.int .i64 k) ∧ w'.cell? ⟨g1, 0, none⟩ = some (.string P0) ∧ w'.cell? ⟨g1, 1, none⟩ = some (.string P1)) (first | (refine ⟨?_, ?_, ?_, ?_, ?_⟩ <;> (repeat (first | assumption | (with_reducible refine keepD ?_) | (with_reducible refine keepN ?_) | (with_reducible refine keepV ?_)))) | go_keep)
        (first | (go_at_call 157; refine (HE.out _).mono ?_; rintro e w2 ⟨rfl, hb2⟩; have d0 : w2.cell? ⟨w.heap.size, 0, none⟩ = some (.int .i64 lo) := (by refine cellB hb2 ?_; (repeat (first | assumption | (with_reducible refine keepD ?_) | (with_reducible refine keepN ?_) | (with_reducible refine keepV ?_)))); have d1 : w2.cell? ⟨w.heap.size, 1, none⟩ = some (.int .i64 high) := (by refine cellB hb2 ?_; (repeat (first | assumption | (with_reducible refine keepD ?_) | (with_reducible refine keepN ?_) | (with_reducible refine keepV ?_)))); have d2 : w2.cell? ⟨w.heap.size, 2, none⟩ = some (.int .i64 k) := (by refine cellB hb2 ?_; (repeat (first | assumption | (with_reducible refine keepD ?_) | (with_reducible refine keepN ?_) | (with_reducible refine keepV ?_)))); have y0 : w2.cell? ⟨g1, 0, none⟩ = some (.string P0) := (by refine cellB hb2 ?_; (repeat (first | assumption | (with_reducible refine keepD ?_) | (with_reducible refine keepN ?_) | (with_reducible refine keepV ?_)))); have y1 : w2.cell? ⟨g1, 1, none⟩ = some (.string P1) := (by refine cellB hb2 ?_; (repeat (first | assumption | (with_reducible refine keepD ?_) | (with_reducible refine keepN ?_) | (with_reducible refine keepV ?_)))); replace bk : Below w1.heap.size w1 w2 := Below.trans (by repeat (first | (with_reducible assumption) | (with_reducible exact Below.refl _ _) | (with_reducible refine below_drewN ?_ _) | (with_reducible refine Below.drew ?_) | (with_reducible refine Below.alloc ?_ (by first | omega | (simp <;> omega)) _))) (hb2.mono (by have := bk.size; first | omega | (simp <;> omega))); clear hb2))
      go_wp2_with fail
      refine (HS.out _).mono ?_
      rintro e w3 ⟨rfl, hb3⟩
      have d0 : w3.cell? ⟨w.heap.size, 0, none⟩ = some (.int .i64 lo) := cellB hb3 d0
      have d1 : w3.cell? ⟨w.heap.size, 1, none⟩ = some (.int .i64 high) := cellB hb3 d1
      have d2 : w3.cell? ⟨w.heap.size, 2, none⟩ = some (.int .i64 k) := cellB hb3 d2
      have y0 : w3.cell? ⟨g1, 0, none⟩ = some (.string P0) := cellB hb3 y0
      have y1 : w3.cell? ⟨g1, 1, none⟩ = some (.string P1) := cellB hb3 y1
      replace bk : Below w1.heap.size w1 w3 := bk.trans (hb3.mono bk.size)
      clear hb3
      go_wp2_with (first | (go_at_call 84; refine (worse_any v u hv hu _).mono ?_; rintro e w9 ⟨rfl, rfl⟩; (try rw [HW.out]); refine stop_here ?_))
      unfold Stop
      have HTz : Hid (w3.there (w.heap.size + 1) 0 64) := Lib.hid (there_below HT1.out bk)
      have HBz : Hid (Below w.heap.size w w3) := Lib.hid (B0.out.trans (bk.mono (by omega)))
      go_wp2_with (first | (refine wpList_store_mid rfl 28 (.tmp 4) (.tmp 57) rfl (w.heap.size + 1) 0 (setL false noneB).toArray rfl rfl (by simpa [setL_len] using HTz.out) (infoCS.trans (by simp [setL_len])) (setL_one false noneB) ?_))
      have hfin : (w3.setCells (w.heap.size + 1) 0 (setL false noneB).toArray.toList).rangeAt (w.heap.size + 1) 0 (setL false noneB) := by
        have := World.rangeAt_setCells_same w3 (w.heap.size + 1) 0 (setL false noneB) (by rw [setL_len]; exact HTz.out)
        simpa using this
      have hbel : Below w.heap.size w (w3.setCells (w.heap.size + 1) 0 (setL false noneB).toArray.toList) := below_setCells (by omega) _ _ _ HBz.out
      refine bodyPost_ret (v := .tuple #[.agg (setL false noneB).toArray, .int .i64 x]) ?_ rfl ⟨rfl, hbel⟩
      have e9 : (setL false noneB).toArray.toList = setL false noneB := by simp
      rw [e9] at hfin
      generalize w3.setCells (w.heap.size + 1) 0 _ = W9 at hfin ⊢
      have hlv := run_loadVar_mid (P := Tryz.prog) W9 (w.heap.size + 1) 0 28 (setL false noneB) _ hfin Tryz.underlying28 rfl (infoCS.trans (by rw [setL_len]))
      clear hfin hbel e9 HR1
      generalize (setL false noneB).toArray = V9 at hlv ⊢
      simp [results, Tryz.results148, Act.put, Sem.run_bind, asAddr, hlv]
    · simp at hH0
      subst hH0
      go_enter Tryz.func148, Tryz.ntmps148
      go_wp2_with fail
      have ea : ((w.alloc (.cells #[.int .i64 lo, .int .i64 hi, .int .i64 k] 209)).alloc (.cells (setL false noneB).toArray 28)).heap[w.heap.size]? = some (.cells #[.int .i64 lo, .int .i64 hi, .int .i64 k] 209) := by
        rw [Below.heap_alloc _ _ _ (by simp)]; exact heap_alloc_new w _
      have ez : ((w.alloc (.cells #[.int .i64 lo, .int .i64 hi, .int .i64 k] 209)).alloc (.cells (setL false noneB).toArray 28)).heap[w.heap.size + 1]? = some (.cells (setL false noneB).toArray 28) := by
        have := heap_alloc_new (w.alloc (.cells #[.int .i64 lo, .int .i64 hi, .int .i64 k] 209)) (.cells (setL false noneB).toArray 28)
        rw [show (w.alloc (.cells #[.int .i64 lo, .int .i64 hi, .int .i64 k] 209)).heap.size = w.heap.size + 1 by simp] at this
        exact this
      have hw0 : Below w.heap.size w ((w.alloc (.cells #[.int .i64 lo, .int .i64 hi, .int .i64 k] 209)).alloc (.cells (setL false noneB).toArray 28)) := (by repeat (first | (with_reducible assumption) | (with_reducible exact Below.refl _ _) | (with_reducible refine below_drewN ?_ _) | (with_reducible refine Below.drew ?_) | (with_reducible refine Below.alloc ?_ (by first | omega | (simp <;> omega)) _)))
      have hz0 : ((w.alloc (.cells #[.int .i64 lo, .int .i64 hi, .int .i64 k] 209)).alloc (.cells (setL false noneB).toArray 28)).heap.size = w.heap.size + 2 := by simp
      refine (pieces_any t 47 ht _).mono ?_
      rintro e w1 ⟨v1, rfl, hown1, hb1⟩
      change Below ((w.alloc (.cells #[.int .i64 lo, .int .i64 hi, .int .i64 k] 209)).alloc (.cells (setL false noneB).toArray 28)).heap.size ((w.alloc (.cells #[.int .i64 lo, .int .i64 hi, .int .i64 k] 209)).alloc (.cells (setL false noneB).toArray 28)) w1 at hb1
      generalize (w.alloc (.cells #[.int .i64 lo, .int .i64 hi, .int .i64 k] 209)).alloc (.cells (setL false noneB).toArray 28) = wa at hb1 ea ez hw0 hz0
      have d0 : w1.cell? ⟨w.heap.size, 0, none⟩ = some (.int .i64 lo) := cellB hb1 (cell_of_row _ _ 0 _ _ (0, 0) ea)
      have d1 : w1.cell? ⟨w.heap.size, 1, none⟩ = some (.int .i64 hi) := cellB hb1 (cell_of_row _ _ 1 _ _ (0, 0) ea)
      have d2 : w1.cell? ⟨w.heap.size, 2, none⟩ = some (.int .i64 k) := cellB hb1 (cell_of_row _ _ 2 _ _ (0, 0) ea)
      have HR1 : Hid (w1.rangeAt (w.heap.size + 1) 0 (setL false noneB)) := Lib.hid (rangeAt_below (fun j v hv => by rw [show 0 + j = j by omega, cell_of_row _ _ j _ _ (0, 0) ez]; simpa using hv) hb1)
      have HT1 : Hid (w1.there (w.heap.size + 1) 0 64) := Lib.hid (there_below (fun j hj => by
        constructor
        · rw [cell_of_row _ _ _ _ _ (0, 0) ez]; simp [setL_len]; omega
        · unfold World.frozen?; rw [ez]; simp) hb1)
      have B0 : Hid (Below w.heap.size w w1) := Lib.hid (hw0.trans (hb1.mono hw0.size))
      have hz1 : w.heap.size + 2 ≤ w1.heap.size := by have := hb1.size; omega
      have bk : Below w1.heap.size w1 w1 := Below.refl _ _
      clear hb1 hw0 ea ez hz0
      rw [show ((47 : UInt8).toNat : Int) = 47 from rfl, HC.out] at hown1
      obtain ⟨g1, cap1, rfl, hc1, hm1, hcell1⟩ := own_open hown1 (by simp)
      have y0 : w1.cell? ⟨g1, 0, none⟩ = some (.string P0) := hcell1 0 (by simp)
      have y1 : w1.cell? ⟨g1, 1, none⟩ = some (.string P1) := hcell1 1 (by simp)
      simp only [List.length_cons, List.length_nil, Nat.zero_add, Nat.reduceAdd] at hc1 ⊢
      unfold maxLen at hm1
      clear hown1 hcell1
      go_wp2_with fail
      go_region_held3 (fun w' => w'.cell? ⟨w.heap.size, 0, none⟩ = some (.int .i64 lo) ∧ w'.cell? ⟨w.heap.size, 1, none⟩ = some (.int .i64 hi) ∧ w'.cell? ⟨w.heap.size, 2, none⟩ = some (.int .i64 k) ∧ w'.cell? ⟨g1, 0, none⟩ = some (.string P0) ∧ w'.cell? ⟨g1, 1, none⟩ = some (.string P1)) (first | (refine ⟨?_, ?_, ?_, ?_, ?_⟩ <;> (repeat (first | assumption | (with_reducible refine keepD ?_) | (with_reducible refine keepN ?_) | (with_reducible refine keepV ?_)))) | go_keep)
        (first | (go_at_call 157; refine (HE.out _).mono ?_; rintro e w2 ⟨rfl, hb2⟩; have d0 : w2.cell? ⟨w.heap.size, 0, none⟩ = some (.int .i64 lo) := (by refine cellB hb2 ?_; (repeat (first | assumption | (with_reducible refine keepD ?_) | (with_reducible refine keepN ?_) | (with_reducible refine keepV ?_)))); have d1 : w2.cell? ⟨w.heap.size, 1, none⟩ = some (.int .i64 hi) := (by refine cellB hb2 ?_; (repeat (first | assumption | (with_reducible refine keepD ?_) | (with_reducible refine keepN ?_) | (with_reducible refine keepV ?_)))); have d2 : w2.cell? ⟨w.heap.size, 2, none⟩ = some (.int .i64 k) := (by refine cellB hb2 ?_; (repeat (first | assumption | (with_reducible refine keepD ?_) | (with_reducible refine keepN ?_) | (with_reducible refine keepV ?_)))); have y0 : w2.cell? ⟨g1, 0, none⟩ = some (.string P0) := (by refine cellB hb2 ?_; (repeat (first | assumption | (with_reducible refine keepD ?_) | (with_reducible refine keepN ?_) | (with_reducible refine keepV ?_)))); have y1 : w2.cell? ⟨g1, 1, none⟩ = some (.string P1) := (by refine cellB hb2 ?_; (repeat (first | assumption | (with_reducible refine keepD ?_) | (with_reducible refine keepN ?_) | (with_reducible refine keepV ?_)))); replace bk : Below w1.heap.size w1 w2 := Below.trans (by repeat (first | (with_reducible assumption) | (with_reducible exact Below.refl _ _) | (with_reducible refine below_drewN ?_ _) | (with_reducible refine Below.drew ?_) | (with_reducible refine Below.alloc ?_ (by first | omega | (simp <;> omega)) _))) (hb2.mono (by have := bk.size; first | omega | (simp <;> omega))); clear hb2))
      go_wp2_with fail
      refine (HS.out _).mono ?_
      rintro e w3 ⟨rfl, hb3⟩
      have d0 : w3.cell? ⟨w.heap.size, 0, none⟩ = some (.int .i64 lo) := cellB hb3 d0
      have d1 : w3.cell? ⟨w.heap.size, 1, none⟩ = some (.int .i64 hi) := cellB hb3 d1
      have d2 : w3.cell? ⟨w.heap.size, 2, none⟩ = some (.int .i64 k) := cellB hb3 d2
      have y0 : w3.cell? ⟨g1, 0, none⟩ = some (.string P0) := cellB hb3 y0
      have y1 : w3.cell? ⟨g1, 1, none⟩ = some (.string P1) := cellB hb3 y1
      replace bk : Below w1.heap.size w1 w3 := bk.trans (hb3.mono bk.size)
      clear hb3
      go_wp2_with (first | (go_at_call 84; refine (worse_any v u hv hu _).mono ?_; rintro e w9 ⟨rfl, rfl⟩; (try rw [HW.out]); refine stop_here ?_))
      unfold Stop
      have HTz : Hid (w3.there (w.heap.size + 1) 0 64) := Lib.hid (there_below HT1.out bk)
      have HBz : Hid (Below w.heap.size w w3) := Lib.hid (B0.out.trans (bk.mono (by omega)))
      go_wp2_with (first | (refine wpList_store_mid rfl 28 (.tmp 4) (.tmp 57) rfl (w.heap.size + 1) 0 (setL false noneB).toArray rfl rfl (by simpa [setL_len] using HTz.out) (infoCS.trans (by simp [setL_len])) (setL_one false noneB) ?_))
      have hfin : (w3.setCells (w.heap.size + 1) 0 (setL false noneB).toArray.toList).rangeAt (w.heap.size + 1) 0 (setL false noneB) := by
        have := World.rangeAt_setCells_same w3 (w.heap.size + 1) 0 (setL false noneB) (by rw [setL_len]; exact HTz.out)
        simpa using this
      have hbel : Below w.heap.size w (w3.setCells (w.heap.size + 1) 0 (setL false noneB).toArray.toList) := below_setCells (by omega) _ _ _ HBz.out
      refine bodyPost_ret (v := .tuple #[.agg (setL false noneB).toArray, .int .i64 x]) ?_ rfl ⟨rfl, hbel⟩
      have e9 : (setL false noneB).toArray.toList = setL false noneB := by simp
      rw [e9] at hfin
      generalize w3.setCells (w.heap.size + 1) 0 _ = W9 at hfin ⊢
      have hlv := run_loadVar_mid (P := Tryz.prog) W9 (w.heap.size + 1) 0 28 (setL false noneB) _ hfin Tryz.underlying28 rfl (infoCS.trans (by rw [setL_len]))
      clear hfin hbel e9 HR1
      generalize (setL false noneB).toArray = V9 at hlv ⊢
      simp [results, Tryz.results148, Act.put, Sem.run_bind, asAddr, hlv]

end Go.Proofs.YtkhggefbkhdimaaGreatDoor
