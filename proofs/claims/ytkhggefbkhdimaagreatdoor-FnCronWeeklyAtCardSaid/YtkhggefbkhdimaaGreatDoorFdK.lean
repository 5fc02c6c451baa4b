/- spec.cronEnds. -/
import Derived.Test.YtkhggefbkhdimaaGreatDoorFdU
import Derived.Test.YtkhggefbkhdimaaGreatDoorFdI
namespace Go.Proofs.YtkhggefbkhdimaaGreatDoor
open Go.RowKit
set_option linter.unusedVariables false
set_option linter.unusedSimpArgs false

def R5 (a b : Nat) (st sg : Bool) (v : Nat) (w : World) (e : Ending) (w' : World) : Prop := e = .returned (.tuple #[.int .i64 a, .int .i64 b, .bool st, .bool sg, .int .i64 v]) ∧ Below w.heap.size w w'
/-- A value is read so, in whatever world. -/
def ValIs (k : Nat) (t : ByteArray) (p : Nat × Nat) : Prop := ∀ W : World, Calls Tryz.prog 164 #[.int .i64 k, .string t] W (ValPost p W)
set_option maxRecDepth 100000 in
set_option maxHeartbeats 2000000 in
theorem ends_1 (k : Nat) (lo hi : Nat) (t : ByteArray) (ht : t.size ≤ 2147483654) (E0 : ByteArray) (HC : Hid (cutB 45 t = [E0])) (s1 : (E0.toList == [42]) = true)  (w : World) :
    Calls Tryz.prog 157 #[.agg #[.int .i64 lo, .int .i64 hi, .int .i64 k], .string t] w (R5 lo hi true true 1 w) := by
  have s2 : (E0.toList == [63]) = false := by rw [beq_iff_eq.1 s1]; rfl
  go_enter Tryz.func157, Tryz.ntmps157
  go_wp2_with fail
  have e0 : (w.alloc (.cells #[.int .i64 lo, .int .i64 hi, .int .i64 k] 209)).heap[w.heap.size]? = some (.cells #[.int .i64 lo, .int .i64 hi, .int .i64 k] 209) := heap_alloc_new w _
  have hw0 : Below w.heap.size w (w.alloc (.cells #[.int .i64 lo, .int .i64 hi, .int .i64 k] 209)) := (by repeat (first | (with_reducible assumption) | (with_reducible exact Below.refl _ _) | (with_reducible refine below_drewN ?_ _) | (with_reducible refine Below.drew ?_) | (with_reducible refine Below.alloc ?_ (by first | omega | (simp <;> omega)) _)))
  refine (pieces_any t 45 ht _).mono ?_
  rintro e w1 ⟨v1, rfl, hown1, hb1⟩
  have d0 : w1.cell? ⟨w.heap.size, 0, none⟩ = some (.int .i64 lo) := cellB hb1 (cell_of_row _ _ 0 _ _ (0, 0) e0)
  have d1 : w1.cell? ⟨w.heap.size, 1, none⟩ = some (.int .i64 hi) := cellB hb1 (cell_of_row _ _ 1 _ _ (0, 0) e0)
  have d2 : w1.cell? ⟨w.heap.size, 2, none⟩ = some (.int .i64 k) := cellB hb1 (cell_of_row _ _ 2 _ _ (0, 0) e0)
  have bk : Below w.heap.size w w1 := hw0.trans (hb1.mono hw0.size)
  clear hb1 hw0 e0
  rw [show ((45 : UInt8).toNat : Int) = 45 from rfl, HC.out] at hown1
  obtain ⟨g1, cap1, rfl, hc1, hm1, hcell1⟩ := own_open hown1 (by simp)
  have y0 : w1.cell? ⟨g1, 0, none⟩ = some (.string E0) := hcell1 0 (by simp)
  simp only [List.length_cons, List.length_nil, Nat.zero_add, Nat.reduceAdd] at hc1 ⊢
  unfold maxLen at hm1
  clear hown1 hcell1
  go_wp2_with fail
  go_quiet (fail)
  go_wp2_with fail
  refine bodyPost_ret (v := .tuple #[.int .i64 lo, .int .i64 hi, .bool true, .bool true, .int .i64 1]) (by simp [results, Tryz.results157, go_sem]) rfl ⟨rfl, ?_⟩
  have nk : w.heap.size ≤ w1.heap.size := bk.size
  exact (by repeat (first | (with_reducible assumption) | (with_reducible exact Below.refl _ _) | (with_reducible refine below_drewN ?_ _) | (with_reducible refine Below.drew ?_) | (with_reducible refine Below.alloc ?_ (by first | omega | (simp <;> omega)) _)))

set_option maxRecDepth 100000 in
set_option maxHeartbeats 2000000 in
theorem ends_2 (k : Nat) (lo hi : Nat) (t : ByteArray) (ht : t.size ≤ 2147483654) (E0 : ByteArray) (E1 : ByteArray) (ES : List ByteArray) (HC : Hid (cutB 45 t = E0 :: E1 :: ES)) (s0 : ((E0.toList == [42]) = true) ∨ ((E0.toList == [42]) = false ∧ (E0.toList == [63]) = true)) (w : World) :
    Calls Tryz.prog 157 #[.agg #[.int .i64 lo, .int .i64 hi, .int .i64 k], .string t] w (R5 lo hi true false 2 w) := by
  go_enter Tryz.func157, Tryz.ntmps157
  go_wp2_with fail
  have e0 : (w.alloc (.cells #[.int .i64 lo, .int .i64 hi, .int .i64 k] 209)).heap[w.heap.size]? = some (.cells #[.int .i64 lo, .int .i64 hi, .int .i64 k] 209) := heap_alloc_new w _
  have hw0 : Below w.heap.size w (w.alloc (.cells #[.int .i64 lo, .int .i64 hi, .int .i64 k] 209)) := (by repeat (first | (with_reducible assumption) | (with_reducible exact Below.refl _ _) | (with_reducible refine below_drewN ?_ _) | (with_reducible refine Below.drew ?_) | (with_reducible refine Below.alloc ?_ (by first | omega | (simp <;> omega)) _)))
  refine (pieces_any t 45 ht _).mono ?_
  rintro e w1 ⟨v1, rfl, hown1, hb1⟩
  have d0 : w1.cell? ⟨w.heap.size, 0, none⟩ = some (.int .i64 lo) := cellB hb1 (cell_of_row _ _ 0 _ _ (0, 0) e0)
  have d1 : w1.cell? ⟨w.heap.size, 1, none⟩ = some (.int .i64 hi) := cellB hb1 (cell_of_row _ _ 1 _ _ (0, 0) e0)
  have d2 : w1.cell? ⟨w.heap.size, 2, none⟩ = some (.int .i64 k) := cellB hb1 (cell_of_row _ _ 2 _ _ (0, 0) e0)
  have bk : Below w.heap.size w w1 := hw0.trans (hb1.mono hw0.size)
  clear hb1 hw0 e0
  rw [show ((45 : UInt8).toNat : Int) = 45 from rfl, HC.out] at hown1
  obtain ⟨g1, cap1, rfl, hc1, hm1, hcell1⟩ := own_open hown1 (by simp)
  have y0 : w1.cell? ⟨g1, 0, none⟩ = some (.string E0) := hcell1 0 (by simp)
  obtain ⟨n, hn⟩ : ∃ n, n = (E0 :: E1 :: ES).length := ⟨_, rfl⟩
  rw [← hn] at hc1 ⊢
  have hn2 : 2 ≤ n := by rw [hn]; simp
  clear hn hown1 hcell1
  unfold maxLen at hm1
  have l0 : 0 < n := by omega
  have l1 : decide ((1 : Int) < (n : Int)) = true := decide_eq_true (by omega)
  have l2 : ((n : Int) == 1) = false := by simp only [beq_eq_false_iff_ne]; omega
  rcases s0 with s1 | ⟨s1, s2⟩
  all_goals
    go_wp2_with fail
    go_quiet (fail)
    go_wp2_with fail
    refine bodyPost_ret (v := .tuple #[.int .i64 lo, .int .i64 hi, .bool true, .bool false, .int .i64 2]) (by simp [results, Tryz.results157, go_sem]) rfl ⟨rfl, ?_⟩
    have nk : w.heap.size ≤ w1.heap.size := bk.size
    exact (by repeat (first | (with_reducible assumption) | (with_reducible exact Below.refl _ _) | (with_reducible refine below_drewN ?_ _) | (with_reducible refine Below.drew ?_) | (with_reducible refine Below.alloc ?_ (by first | omega | (simp <;> omega)) _)))

set_option maxRecDepth 100000 in
set_option maxHeartbeats 2000000 in
theorem ends_3 (lo hi : Nat) (t : ByteArray) (ht : t.size ≤ 2147483654) (E0 : ByteArray) (HC : Hid (cutB 45 t = [E0])) (s1 : (E0.toList == [42]) = false) (s2 : (E0.toList == [63]) = true) (w : World) :
    Calls Tryz.prog 157 #[.agg #[.int .i64 lo, .int .i64 hi, .int .i64 3], .string t] w (R5 lo hi true true 1 w) := by
  go_enter Tryz.func157, Tryz.ntmps157
  go_wp2_with fail
  have e0 : (w.alloc (.cells #[.int .i64 lo, .int .i64 hi, .int .i64 3] 209)).heap[w.heap.size]? = some (.cells #[.int .i64 lo, .int .i64 hi, .int .i64 3] 209) := heap_alloc_new w _
  have hw0 : Below w.heap.size w (w.alloc (.cells #[.int .i64 lo, .int .i64 hi, .int .i64 3] 209)) := (by repeat (first | (with_reducible assumption) | (with_reducible exact Below.refl _ _) | (with_reducible refine below_drewN ?_ _) | (with_reducible refine Below.drew ?_) | (with_reducible refine Below.alloc ?_ (by first | omega | (simp <;> omega)) _)))
  refine (pieces_any t 45 ht _).mono ?_
  rintro e w1 ⟨v1, rfl, hown1, hb1⟩
  have d0 : w1.cell? ⟨w.heap.size, 0, none⟩ = some (.int .i64 lo) := cellB hb1 (cell_of_row _ _ 0 _ _ (0, 0) e0)
  have d1 : w1.cell? ⟨w.heap.size, 1, none⟩ = some (.int .i64 hi) := cellB hb1 (cell_of_row _ _ 1 _ _ (0, 0) e0)
  have d2 : w1.cell? ⟨w.heap.size, 2, none⟩ = some (.int .i64 3) := cellB hb1 (cell_of_row _ _ 2 _ _ (0, 0) e0)
  have bk : Below w.heap.size w w1 := hw0.trans (hb1.mono hw0.size)
  clear hb1 hw0 e0
  rw [show ((45 : UInt8).toNat : Int) = 45 from rfl, HC.out] at hown1
  obtain ⟨g1, cap1, rfl, hc1, hm1, hcell1⟩ := own_open hown1 (by simp)
  have y0 : w1.cell? ⟨g1, 0, none⟩ = some (.string E0) := hcell1 0 (by simp)
  simp only [List.length_cons, List.length_nil, Nat.zero_add, Nat.reduceAdd] at hc1 ⊢
  unfold maxLen at hm1
  clear hown1 hcell1
  go_wp2_with fail
  go_quiet (fail)
  go_wp2_with fail
  refine bodyPost_ret (v := .tuple #[.int .i64 lo, .int .i64 hi, .bool true, .bool true, .int .i64 1]) (by simp [results, Tryz.results157, go_sem]) rfl ⟨rfl, ?_⟩
  have nk : w.heap.size ≤ w1.heap.size := bk.size
  exact (by repeat (first | (with_reducible assumption) | (with_reducible exact Below.refl _ _) | (with_reducible refine below_drewN ?_ _) | (with_reducible refine Below.drew ?_) | (with_reducible refine Below.alloc ?_ (by first | omega | (simp <;> omega)) _)))

set_option maxRecDepth 100000 in
set_option maxHeartbeats 2000000 in
theorem ends_4 (lo hi : Nat) (t : ByteArray) (ht : t.size ≤ 2147483654) (E0 : ByteArray) (HC : Hid (cutB 45 t = [E0])) (s1 : (E0.toList == [42]) = false) (s2 : (E0.toList == [63]) = true) (w : World) :
    Calls Tryz.prog 157 #[.agg #[.int .i64 lo, .int .i64 hi, .int .i64 5], .string t] w (R5 lo hi true true 1 w) := by
  go_enter Tryz.func157, Tryz.ntmps157
  go_wp2_with fail
  have e0 : (w.alloc (.cells #[.int .i64 lo, .int .i64 hi, .int .i64 5] 209)).heap[w.heap.size]? = some (.cells #[.int .i64 lo, .int .i64 hi, .int .i64 5] 209) := heap_alloc_new w _
  have hw0 : Below w.heap.size w (w.alloc (.cells #[.int .i64 lo, .int .i64 hi, .int .i64 5] 209)) := (by repeat (first | (with_reducible assumption) | (with_reducible exact Below.refl _ _) | (with_reducible refine below_drewN ?_ _) | (with_reducible refine Below.drew ?_) | (with_reducible refine Below.alloc ?_ (by first | omega | (simp <;> omega)) _)))
  refine (pieces_any t 45 ht _).mono ?_
  rintro e w1 ⟨v1, rfl, hown1, hb1⟩
  have d0 : w1.cell? ⟨w.heap.size, 0, none⟩ = some (.int .i64 lo) := cellB hb1 (cell_of_row _ _ 0 _ _ (0, 0) e0)
  have d1 : w1.cell? ⟨w.heap.size, 1, none⟩ = some (.int .i64 hi) := cellB hb1 (cell_of_row _ _ 1 _ _ (0, 0) e0)
  have d2 : w1.cell? ⟨w.heap.size, 2, none⟩ = some (.int .i64 5) := cellB hb1 (cell_of_row _ _ 2 _ _ (0, 0) e0)
  have bk : Below w.heap.size w w1 := hw0.trans (hb1.mono hw0.size)
  clear hb1 hw0 e0
  rw [show ((45 : UInt8).toNat : Int) = 45 from rfl, HC.out] at hown1
  obtain ⟨g1, cap1, rfl, hc1, hm1, hcell1⟩ := own_open hown1 (by simp)
  have y0 : w1.cell? ⟨g1, 0, none⟩ = some (.string E0) := hcell1 0 (by simp)
  simp only [List.length_cons, List.length_nil, Nat.zero_add, Nat.reduceAdd] at hc1 ⊢
  unfold maxLen at hm1
  clear hown1 hcell1
  go_wp2_with fail
  go_quiet (fail)
  go_wp2_with fail
  refine bodyPost_ret (v := .tuple #[.int .i64 lo, .int .i64 hi, .bool true, .bool true, .int .i64 1]) (by simp [results, Tryz.results157, go_sem]) rfl ⟨rfl, ?_⟩
  have nk : w.heap.size ≤ w1.heap.size := bk.size
  exact (by repeat (first | (with_reducible assumption) | (with_reducible exact Below.refl _ _) | (with_reducible refine below_drewN ?_ _) | (with_reducible refine Below.drew ?_) | (with_reducible refine Below.alloc ?_ (by first | omega | (simp <;> omega)) _)))

set_option maxRecDepth 100000 in
set_option maxHeartbeats 2000000 in
theorem ends_5 (k : Nat) (lo hi : Nat) (t : ByteArray) (ht : t.size ≤ 2147483654) (E0 : ByteArray) (HC : Hid (cutB 45 t = [E0])) (s1 : (E0.toList == [42]) = false) (s2 : (E0.toList == [63]) = true) (h3 : ¬ k = 3) (h5 : ¬ k = 5) (w : World) :
    Calls Tryz.prog 157 #[.agg #[.int .i64 lo, .int .i64 hi, .int .i64 k], .string t] w (R5 lo hi true true 2 w) := by
  have q3 : ((k : Int) != 3) = true := by simp only [bne_iff_ne]; omega
  have q5 : ((k : Int) != 5) = true := by simp only [bne_iff_ne]; omega
  clear h3 h5
  go_enter Tryz.func157, Tryz.ntmps157
  go_wp2_with fail
  have e0 : (w.alloc (.cells #[.int .i64 lo, .int .i64 hi, .int .i64 k] 209)).heap[w.heap.size]? = some (.cells #[.int .i64 lo, .int .i64 hi, .int .i64 k] 209) := heap_alloc_new w _
  have hw0 : Below w.heap.size w (w.alloc (.cells #[.int .i64 lo, .int .i64 hi, .int .i64 k] 209)) := (by repeat (first | (with_reducible assumption) | (with_reducible exact Below.refl _ _) | (with_reducible refine below_drewN ?_ _) | (with_reducible refine Below.drew ?_) | (with_reducible refine Below.alloc ?_ (by first | omega | (simp <;> omega)) _)))
  refine (pieces_any t 45 ht _).mono ?_
  rintro e w1 ⟨v1, rfl, hown1, hb1⟩
  have d0 : w1.cell? ⟨w.heap.size, 0, none⟩ = some (.int .i64 lo) := cellB hb1 (cell_of_row _ _ 0 _ _ (0, 0) e0)
  have d1 : w1.cell? ⟨w.heap.size, 1, none⟩ = some (.int .i64 hi) := cellB hb1 (cell_of_row _ _ 1 _ _ (0, 0) e0)
  have d2 : w1.cell? ⟨w.heap.size, 2, none⟩ = some (.int .i64 k) := cellB hb1 (cell_of_row _ _ 2 _ _ (0, 0) e0)
  have bk : Below w.heap.size w w1 := hw0.trans (hb1.mono hw0.size)
  clear hb1 hw0 e0
  rw [show ((45 : UInt8).toNat : Int) = 45 from rfl, HC.out] at hown1
  obtain ⟨g1, cap1, rfl, hc1, hm1, hcell1⟩ := own_open hown1 (by simp)
  have y0 : w1.cell? ⟨g1, 0, none⟩ = some (.string E0) := hcell1 0 (by simp)
  simp only [List.length_cons, List.length_nil, Nat.zero_add, Nat.reduceAdd] at hc1 ⊢
  unfold maxLen at hm1
  clear hown1 hcell1
  go_wp2_with fail
  go_quiet (fail)
  go_wp2_with fail
  refine bodyPost_ret (v := .tuple #[.int .i64 lo, .int .i64 hi, .bool true, .bool true, .int .i64 2]) (by simp [results, Tryz.results157, go_sem]) rfl ⟨rfl, ?_⟩
  have nk : w.heap.size ≤ w1.heap.size := bk.size
  exact (by repeat (first | (with_reducible assumption) | (with_reducible exact Below.refl _ _) | (with_reducible refine below_drewN ?_ _) | (with_reducible refine Below.drew ?_) | (with_reducible refine Below.alloc ?_ (by first | omega | (simp <;> omega)) _)))

set_option maxRecDepth 100000 in
set_option maxHeartbeats 2000000 in
theorem ends_6 (k : Nat) (lo hi : Nat) (t : ByteArray) (ht : t.size ≤ 2147483654) (E0 : ByteArray) (HC : Hid (cutB 45 t = [E0])) (s1 : (E0.toList == [42]) = false) (s2 : (E0.toList == [63]) = false) (n v : Nat) (HV : Hid (ValIs k E0 (n, v))) (w : World) :
    Calls Tryz.prog 157 #[.agg #[.int .i64 lo, .int .i64 hi, .int .i64 k], .string t] w (R5 n n false true v w) := by
  go_enter Tryz.func157, Tryz.ntmps157
  go_wp2_with fail
  have e0 : (w.alloc (.cells #[.int .i64 lo, .int .i64 hi, .int .i64 k] 209)).heap[w.heap.size]? = some (.cells #[.int .i64 lo, .int .i64 hi, .int .i64 k] 209) := heap_alloc_new w _
  have hw0 : Below w.heap.size w (w.alloc (.cells #[.int .i64 lo, .int .i64 hi, .int .i64 k] 209)) := (by repeat (first | (with_reducible assumption) | (with_reducible exact Below.refl _ _) | (with_reducible refine below_drewN ?_ _) | (with_reducible refine Below.drew ?_) | (with_reducible refine Below.alloc ?_ (by first | omega | (simp <;> omega)) _)))
  refine (pieces_any t 45 ht _).mono ?_
  rintro e w1 ⟨v1, rfl, hown1, hb1⟩
  have d0 : w1.cell? ⟨w.heap.size, 0, none⟩ = some (.int .i64 lo) := cellB hb1 (cell_of_row _ _ 0 _ _ (0, 0) e0)
  have d1 : w1.cell? ⟨w.heap.size, 1, none⟩ = some (.int .i64 hi) := cellB hb1 (cell_of_row _ _ 1 _ _ (0, 0) e0)
  have d2 : w1.cell? ⟨w.heap.size, 2, none⟩ = some (.int .i64 k) := cellB hb1 (cell_of_row _ _ 2 _ _ (0, 0) e0)
  have bk : Below w.heap.size w w1 := hw0.trans (hb1.mono hw0.size)
  clear hb1 hw0 e0
  rw [show ((45 : UInt8).toNat : Int) = 45 from rfl, HC.out] at hown1
  obtain ⟨g1, cap1, rfl, hc1, hm1, hcell1⟩ := own_open hown1 (by simp)
  have y0 : w1.cell? ⟨g1, 0, none⟩ = some (.string E0) := hcell1 0 (by simp)
  simp only [List.length_cons, List.length_nil, Nat.zero_add, Nat.reduceAdd] at hc1 ⊢
  unfold maxLen at hm1
  clear hown1 hcell1
  go_wp2_with fail
  go_region_held3 (fun w' => w'.cell? ⟨w.heap.size, 0, none⟩ = some (.int .i64 lo) ∧ w'.cell? ⟨w.heap.size, 1, none⟩ = some (.int .i64 hi) ∧ w'.cell? ⟨w.heap.size, 2, none⟩ = some (.int .i64 k) ∧ w'.cell? ⟨g1, 0, none⟩ = some (.string E0)) (first | (refine ⟨?_, ?_, ?_, ?_⟩ <;> (repeat (first | assumption | (with_reducible refine keepD ?_) | (with_reducible refine keepN ?_) | (with_reducible refine keepV ?_)))) | go_keep)
    (first | (go_at_call 164; refine (HV.out _).mono ?_; rintro e w2 ⟨rfl, hb2⟩; have d0 : w2.cell? ⟨w.heap.size, 0, none⟩ = some (.int .i64 lo) := (by refine cellB hb2 ?_; (repeat (first | assumption | (with_reducible refine keepD ?_) | (with_reducible refine keepN ?_) | (with_reducible refine keepV ?_)))); have d1 : w2.cell? ⟨w.heap.size, 1, none⟩ = some (.int .i64 hi) := (by refine cellB hb2 ?_; (repeat (first | assumption | (with_reducible refine keepD ?_) | (with_reducible refine keepN ?_) | (with_reducible refine keepV ?_)))); have d2 : w2.cell? ⟨w.heap.size, 2, none⟩ = some (.int .i64 k) := (by refine cellB hb2 ?_; (repeat (first | assumption | (with_reducible refine keepD ?_) | (with_reducible refine keepN ?_) | (with_reducible refine keepV ?_)))); have y0 : w2.cell? ⟨g1, 0, none⟩ = some (.string E0) := (by refine cellB hb2 ?_; (repeat (first | assumption | (with_reducible refine keepD ?_) | (with_reducible refine keepN ?_) | (with_reducible refine keepV ?_)))); replace bk : Below w.heap.size w w2 := Below.trans (by repeat (first | (with_reducible assumption) | (with_reducible exact Below.refl _ _) | (with_reducible refine below_drewN ?_ _) | (with_reducible refine Below.drew ?_) | (with_reducible refine Below.alloc ?_ (by first | omega | (simp <;> omega)) _))) (hb2.mono (by have := bk.size; first | omega | (simp <;> omega))); clear hb2))
  go_wp2_with fail
  refine bodyPost_ret (v := .tuple #[.int .i64 n, .int .i64 n, .bool false, .bool true, .int .i64 v]) (by simp [results, Tryz.results157, go_sem]) rfl ⟨rfl, ?_⟩
  have nk : w.heap.size ≤ w2.heap.size := bk.size
  exact (by repeat (first | (with_reducible assumption) | (with_reducible exact Below.refl _ _) | (with_reducible refine below_drewN ?_ _) | (with_reducible refine Below.drew ?_) | (with_reducible refine Below.alloc ?_ (by first | omega | (simp <;> omega)) _)))

set_option maxRecDepth 100000 in
set_option maxHeartbeats 2000000 in
theorem ends_7 (k : Nat) (lo hi : Nat) (t : ByteArray) (ht : t.size ≤ 2147483654) (E0 : ByteArray) (E1 : ByteArray) (HC : Hid (cutB 45 t = [E0, E1])) (s1 : (E0.toList == [42]) = false) (s2 : (E0.toList == [63]) = false) (n v m u : Nat) (hv : v ≤ 2) (hu : u ≤ 2) (HV : Hid (ValIs k E0 (n, v))) (HU : Hid (ValIs k E1 (m, u))) (w : World) :
    Calls Tryz.prog 157 #[.agg #[.int .i64 lo, .int .i64 hi, .int .i64 k], .string t] w (R5 n m false false (worseN v u) w) := by
  go_enter Tryz.func157, Tryz.ntmps157
  go_wp2_with fail
  have e0 : (w.alloc (.cells #[.int .i64 lo, .int .i64 hi, .int .i64 k] 209)).heap[w.heap.size]? = some (.cells #[.int .i64 lo, .int .i64 hi, .int .i64 k] 209) := heap_alloc_new w _
  have hw0 : Below w.heap.size w (w.alloc (.cells #[.int .i64 lo, .int .i64 hi, .int .i64 k] 209)) := (by repeat (first | (with_reducible assumption) | (with_reducible exact Below.refl _ _) | (with_reducible refine below_drewN ?_ _) | (with_reducible refine Below.drew ?_) | (with_reducible refine Below.alloc ?_ (by first | omega | (simp <;> omega)) _)))
  refine (pieces_any t 45 ht _).mono ?_
  rintro e w1 ⟨v1, rfl, hown1, hb1⟩
  have d0 : w1.cell? ⟨w.heap.size, 0, none⟩ = some (.int .i64 lo) := cellB hb1 (cell_of_row _ _ 0 _ _ (0, 0) e0)
  have d1 : w1.cell? ⟨w.heap.size, 1, none⟩ = some (.int .i64 hi) := cellB hb1 (cell_of_row _ _ 1 _ _ (0, 0) e0)
  have d2 : w1.cell? ⟨w.heap.size, 2, none⟩ = some (.int .i64 k) := cellB hb1 (cell_of_row _ _ 2 _ _ (0, 0) e0)
  have bk : Below w.heap.size w w1 := hw0.trans (hb1.mono hw0.size)
  clear hb1 hw0 e0
  rw [show ((45 : UInt8).toNat : Int) = 45 from rfl, HC.out] at hown1
  obtain ⟨g1, cap1, rfl, hc1, hm1, hcell1⟩ := own_open hown1 (by simp)
  have y0 : w1.cell? ⟨g1, 0, none⟩ = some (.string E0) := hcell1 0 (by simp)
  have y1 : w1.cell? ⟨g1, 1, none⟩ = some (.string E1) := hcell1 1 (by simp)
  simp only [List.length_cons, List.length_nil, Nat.zero_add, Nat.reduceAdd] at hc1 ⊢
  unfold maxLen at hm1
  clear hown1 hcell1
  go_wp2_with fail
  go_region_held3 (fun w' => w'.cell? ⟨w.heap.size, 0, none⟩ = some (.int .i64 lo) ∧ w'.cell? ⟨w.heap.size, 1, none⟩ = some (.int .i64 hi) ∧ w'.cell? ⟨w.heap.size, 2, none⟩ = some (.int .i64 k) ∧ w'.cell? ⟨g1, 0, none⟩ = some (.string E0) ∧ w'.cell? ⟨g1, 1, none⟩ = some (.string E1)) (first | (refine ⟨?_, ?_, ?_, ?_, ?_⟩ <;> (repeat (first | assumption | (with_reducible refine keepD ?_) | (with_reducible refine keepN ?_) | (with_reducible refine keepV ?_)))) | go_keep)
    (first | (go_at_call 164; refine (HV.out _).mono ?_; rintro e w2 ⟨rfl, hb2⟩; have d0 : w2.cell? ⟨w.heap.size, 0, none⟩ = some (.int .i64 lo) := (by refine cellB hb2 ?_; (repeat (first | assumption | (with_reducible refine keepD ?_) | (with_reducible refine keepN ?_) | (with_reducible refine keepV ?_)))); have d1 : w2.cell? ⟨w.heap.size, 1, none⟩ = some (.int .i64 hi) := (by refine cellB hb2 ?_; (repeat (first | assumption | (with_reducible refine keepD ?_) | (with_reducible refine keepN ?_) | (with_reducible refine keepV ?_)))); have d2 : w2.cell? ⟨w.heap.size, 2, none⟩ = some (.int .i64 k) := (by refine cellB hb2 ?_; (repeat (first | assumption | (with_reducible refine keepD ?_) | (with_reducible refine keepN ?_) | (with_reducible refine keepV ?_)))); have y0 : w2.cell? ⟨g1, 0, none⟩ = some (.string E0) := (by refine cellB hb2 ?_; (repeat (first | assumption | (with_reducible refine keepD ?_) | (with_reducible refine keepN ?_) | (with_reducible refine keepV ?_)))); have y1 : w2.cell? ⟨g1, 1, none⟩ = some (.string E1) := (by refine cellB hb2 ?_; (repeat (first | assumption | (with_reducible refine keepD ?_) | (with_reducible refine keepN ?_) | (with_reducible refine keepV ?_)))); replace bk : Below w.heap.size w w2 := Below.trans (by repeat (first | (with_reducible assumption) | (with_reducible exact Below.refl _ _) | (with_reducible refine below_drewN ?_ _) | (with_reducible refine Below.drew ?_) | (with_reducible refine Below.alloc ?_ (by first | omega | (simp <;> omega)) _))) (hb2.mono (by have := bk.size; first | omega | (simp <;> omega))); clear hb2))
  go_wp2_with fail
  go_region_held3 (fun w' => w'.cell? ⟨w.heap.size, 0, none⟩ = some (.int .i64 lo) ∧ w'.cell? ⟨w.heap.size, 1, none⟩ = some (.int .i64 hi) ∧ w'.cell? ⟨w.heap.size, 2, none⟩ = some (.int .i64 k) ∧ w'.cell? ⟨g1, 0, none⟩ = some (.string E0) ∧ w'.cell? ⟨g1, 1, none⟩ = some (.string E1)) (first | (refine ⟨?_, ?_, ?_, ?_, ?_⟩ <;> (repeat (first | assumption | (with_reducible refine keepD ?_) | (with_reducible refine keepN ?_) | (with_reducible refine keepV ?_)))) | go_keep)
    (first | (go_at_call 164; refine (HU.out _).mono ?_; rintro e w3 ⟨rfl, hb3⟩; have d0 : w3.cell? ⟨w.heap.size, 0, none⟩ = some (.int .i64 lo) := (by refine cellB hb3 ?_; (repeat (first | assumption | (with_reducible refine keepD ?_) | (with_reducible refine keepN ?_) | (with_reducible refine keepV ?_)))); have d1 : w3.cell? ⟨w.heap.size, 1, none⟩ = some (.int .i64 hi) := (by refine cellB hb3 ?_; (repeat (first | assumption | (with_reducible refine keepD ?_) | (with_reducible refine keepN ?_) | (with_reducible refine keepV ?_)))); have d2 : w3.cell? ⟨w.heap.size, 2, none⟩ = some (.int .i64 k) := (by refine cellB hb3 ?_; (repeat (first | assumption | (with_reducible refine keepD ?_) | (with_reducible refine keepN ?_) | (with_reducible refine keepV ?_)))); have y0 : w3.cell? ⟨g1, 0, none⟩ = some (.string E0) := (by refine cellB hb3 ?_; (repeat (first | assumption | (with_reducible refine keepD ?_) | (with_reducible refine keepN ?_) | (with_reducible refine keepV ?_)))); have y1 : w3.cell? ⟨g1, 1, none⟩ = some (.string E1) := (by refine cellB hb3 ?_; (repeat (first | assumption | (with_reducible refine keepD ?_) | (with_reducible refine keepN ?_) | (with_reducible refine keepV ?_)))); replace bk : Below w.heap.size w w3 := Below.trans (by repeat (first | (with_reducible assumption) | (with_reducible exact Below.refl _ _) | (with_reducible refine below_drewN ?_ _) | (with_reducible refine Below.drew ?_) | (with_reducible refine Below.alloc ?_ (by first | omega | (simp <;> omega)) _))) (hb3.mono (by have := bk.size; first | omega | (simp <;> omega))); clear hb3))
  go_wp2_with (first | (go_at_call 84; refine (worse_any v u hv hu _).mono ?_; rintro e w9 ⟨rfl, rfl⟩))
  refine bodyPost_ret (v := .tuple #[.int .i64 n, .int .i64 m, .bool false, .bool false, .int .i64 (worseN v u : Nat)]) (by simp [results, Tryz.results157, go_sem]) rfl ⟨rfl, ?_⟩
  have nk : w.heap.size ≤ w3.heap.size := bk.size
  exact (by repeat (first | (with_reducible assumption) | (with_reducible exact Below.refl _ _) | (with_reducible refine below_drewN ?_ _) | (with_reducible refine Below.drew ?_) | (with_reducible refine Below.alloc ?_ (by first | omega | (simp <;> omega)) _)))

set_option maxRecDepth 100000 in
set_option maxHeartbeats 2000000 in
theorem ends_8 (k : Nat) (lo hi : Nat) (t : ByteArray) (ht : t.size ≤ 2147483654) (E0 : ByteArray) (E1 : ByteArray) (E2 : ByteArray) (ES : List ByteArray) (HC : Hid (cutB 45 t = E0 :: E1 :: E2 :: ES)) (s1 : (E0.toList == [42]) = false) (s2 : (E0.toList == [63]) = false) (n v : Nat) (HV : Hid (ValIs k E0 (n, v))) (w : World) :
    Calls Tryz.prog 157 #[.agg #[.int .i64 lo, .int .i64 hi, .int .i64 k], .string t] w (R5 0 0 false false 0 w) := by
  go_enter Tryz.func157, Tryz.ntmps157
  go_wp2_with fail
  have e0 : (w.alloc (.cells #[.int .i64 lo, .int .i64 hi, .int .i64 k] 209)).heap[w.heap.size]? = some (.cells #[.int .i64 lo, .int .i64 hi, .int .i64 k] 209) := heap_alloc_new w _
  have hw0 : Below w.heap.size w (w.alloc (.cells #[.int .i64 lo, .int .i64 hi, .int .i64 k] 209)) := (by repeat (first | (with_reducible assumption) | (with_reducible exact Below.refl _ _) | (with_reducible refine below_drewN ?_ _) | (with_reducible refine Below.drew ?_) | (with_reducible refine Below.alloc ?_ (by first | omega | (simp <;> omega)) _)))
  refine (pieces_any t 45 ht _).mono ?_
  rintro e w1 ⟨v1, rfl, hown1, hb1⟩
  have d0 : w1.cell? ⟨w.heap.size, 0, none⟩ = some (.int .i64 lo) := cellB hb1 (cell_of_row _ _ 0 _ _ (0, 0) e0)
  have d1 : w1.cell? ⟨w.heap.size, 1, none⟩ = some (.int .i64 hi) := cellB hb1 (cell_of_row _ _ 1 _ _ (0, 0) e0)
  have d2 : w1.cell? ⟨w.heap.size, 2, none⟩ = some (.int .i64 k) := cellB hb1 (cell_of_row _ _ 2 _ _ (0, 0) e0)
  have bk : Below w.heap.size w w1 := hw0.trans (hb1.mono hw0.size)
  clear hb1 hw0 e0
  rw [show ((45 : UInt8).toNat : Int) = 45 from rfl, HC.out] at hown1
  obtain ⟨g1, cap1, rfl, hc1, hm1, hcell1⟩ := own_open hown1 (by simp)
  have y0 : w1.cell? ⟨g1, 0, none⟩ = some (.string E0) := hcell1 0 (by simp)
  obtain ⟨n, hn⟩ : ∃ n, n = (E0 :: E1 :: E2 :: ES).length := ⟨_, rfl⟩
  rw [← hn] at hc1 ⊢
  have hn3 : 3 ≤ n := by rw [hn]; simp
  clear hn hown1 hcell1
  unfold maxLen at hm1
  have l0 : 0 < n := by omega
  have l1 : decide ((1 : Int) < (n : Int)) = true := decide_eq_true (by omega)
  have l2 : ((n : Int) == 1) = false := by simp only [beq_eq_false_iff_ne]; omega
  have l3 : ((n : Int) == 2) = false := by simp only [beq_eq_false_iff_ne]; omega
  go_wp2_with fail
  go_region_held3 (fun w' => w'.cell? ⟨w.heap.size, 0, none⟩ = some (.int .i64 lo) ∧ w'.cell? ⟨w.heap.size, 1, none⟩ = some (.int .i64 hi) ∧ w'.cell? ⟨w.heap.size, 2, none⟩ = some (.int .i64 k) ∧ w'.cell? ⟨g1, 0, none⟩ = some (.string E0)) (first | (refine ⟨?_, ?_, ?_, ?_⟩ <;> (repeat (first | assumption | (with_reducible refine keepD ?_) | (with_reducible refine keepN ?_) | (with_reducible refine keepV ?_)))) | go_keep)
    (first | (go_at_call 164; refine (HV.out _).mono ?_; rintro e w2 ⟨rfl, hb2⟩; have d0 : w2.cell? ⟨w.heap.size, 0, none⟩ = some (.int .i64 lo) := (by refine cellB hb2 ?_; (repeat (first | assumption | (with_reducible refine keepD ?_) | (with_reducible refine keepN ?_) | (with_reducible refine keepV ?_)))); have d1 : w2.cell? ⟨w.heap.size, 1, none⟩ = some (.int .i64 hi) := (by refine cellB hb2 ?_; (repeat (first | assumption | (with_reducible refine keepD ?_) | (with_reducible refine keepN ?_) | (with_reducible refine keepV ?_)))); have d2 : w2.cell? ⟨w.heap.size, 2, none⟩ = some (.int .i64 k) := (by refine cellB hb2 ?_; (repeat (first | assumption | (with_reducible refine keepD ?_) | (with_reducible refine keepN ?_) | (with_reducible refine keepV ?_)))); have y0 : w2.cell? ⟨g1, 0, none⟩ = some (.string E0) := (by refine cellB hb2 ?_; (repeat (first | assumption | (with_reducible refine keepD ?_) | (with_reducible refine keepN ?_) | (with_reducible refine keepV ?_)))); replace bk : Below w.heap.size w w2 := Below.trans (by repeat (first | (with_reducible assumption) | (with_reducible exact Below.refl _ _) | (with_reducible refine below_drewN ?_ _) | (with_reducible refine Below.drew ?_) | (with_reducible refine Below.alloc ?_ (by first | omega | (simp <;> omega)) _))) (hb2.mono (by have := bk.size; first | omega | (simp <;> omega))); clear hb2))
  go_wp2_with fail
  refine bodyPost_ret (v := .tuple #[.int .i64 0, .int .i64 0, .bool false, .bool false, .int .i64 0]) (by simp [results, Tryz.results157, go_sem]) rfl ⟨rfl, ?_⟩
  have nk : w.heap.size ≤ w2.heap.size := bk.size
  exact (by repeat (first | (with_reducible assumption) | (with_reducible exact Below.refl _ _) | (with_reducible refine below_drewN ?_ _) | (with_reducible refine Below.drew ?_) | (with_reducible refine Below.alloc ?_ (by first | omega | (simp <;> omega)) _)))

end Go.Proofs.YtkhggefbkhdimaaGreatDoor
