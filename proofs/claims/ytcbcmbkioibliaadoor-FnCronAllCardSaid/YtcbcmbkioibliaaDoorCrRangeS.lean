/- cron.getRange at "a-b/k". -/
import Derived.Test.YtcbcmbkioibliaaDoorCrRange
namespace Go.Proofs.YtcbcmbkioibliaaDoor
open Go.RowKit Go.Shelf
set_option linter.unusedVariables false
set_option linter.unusedSimpArgs false

set_option maxRecDepth 100000 in
set_option maxHeartbeats 4000000 in
theorem rs_lomany (low high a b k : Nat) (hh : high ≤ 62) (ha : a < 9223372036854775808) (hb : b < 9223372036854775808) (hk : k < 9223372036854775808) (T : ByteArray) (hs9 : T.size ≤ 62) (HC : Hid (cutB 47 T = [rangeT a b, decT k])) (w : World) (h1 : a < low) (h4 : 1 < k) (h5 : k ≤ 4294967296) :
    Calls Tryd.prog 23 #[.string (T), .agg #[.int .u64 low, .int .u64 high, .map none]] w (RangeErr w) := by
  have hsz := rangeT_size a b (by omega) (by omega)
  have hsk := decT_size k (by omega)
  have s1 := decT_star 42 (by omega) a 42 rfl
  have s2 := decT_star 63 (by omega) a 63 rfl
  have i1 : ((a : Int) < (low : Int)) = True := by simp; exact h1
  have i4 : ((1 : Int) < (k : Int)) = True := by simp; omega
  have i5 : ((k : Int) == 0) = false := by simp; omega
  have i6 : ((k : Int) = 0) = False := by simp; omega
  go_enter Tryd.func23, Tryd.ntmps23
  go_wp2_with fail
  have e0 : (w.alloc (.cells #[.int .u64 low, .int .u64 high, .map none] 49)).heap[w.heap.size]? = some (.cells #[.int .u64 low, .int .u64 high, .map none] 49) := heap_alloc_new w _
  have hw0 : Below w.heap.size w (w.alloc (.cells #[.int .u64 low, .int .u64 high, .map none] 49)) := (by repeat (first | (with_reducible assumption) | (with_reducible exact Below.refl _ _) | (with_reducible refine below_drewN ?_ _) | (with_reducible refine Below.drew ?_) | (with_reducible refine Below.alloc ?_ (by first | omega | (simp <;> omega)) _)))
  refine (splitSv_any (T) 47 (by omega) _).mono ?_
  rintro e w1 ⟨v1, rfl, hown1, hb1⟩
  have d0 : w1.cell? ⟨w.heap.size, 0, none⟩ = some (.int .u64 low) := cellB hb1 (cell_of_row _ _ 0 _ _ (0, 0) e0)
  have d1 : w1.cell? ⟨w.heap.size, 1, none⟩ = some (.int .u64 high) := cellB hb1 (cell_of_row _ _ 1 _ _ (0, 0) e0)
  have d2 : w1.cell? ⟨w.heap.size, 2, none⟩ = some (.map none) := cellB hb1 (cell_of_row _ _ 2 _ _ (0, 0) e0)
  have bk : Below w.heap.size w w1 := hw0.trans (hb1.mono hw0.size)
  clear hb1 hw0 e0
  rw [show ((47 : UInt8).toNat : Int) = 47 from rfl, HC.out] at hown1
  obtain ⟨g1, cap1, rfl, hc1, hm1, hcell1⟩ := own_open hown1 (by simp)
  have x0 : w1.cell? ⟨g1, 0, none⟩ = some (.string (rangeT a b)) := hcell1 0 (by simp)
  have x1 : w1.cell? ⟨g1, 1, none⟩ = some (.string (decT k)) := hcell1 1 (by simp)
  simp only [List.length_cons, List.length_nil, Nat.zero_add, Nat.reduceAdd] at hc1 ⊢
  unfold maxLen at hm1
  clear hown1 hcell1
  go_wp2_with fail
  refine (splitSv_any (rangeT a b) 45 (by omega) _).mono ?_
  rintro e w2 ⟨v2, rfl, hown2, hb2⟩
  have d0 : w2.cell? ⟨w.heap.size, 0, none⟩ = some (.int .u64 low) := cellB hb2 d0
  have d1 : w2.cell? ⟨w.heap.size, 1, none⟩ = some (.int .u64 high) := cellB hb2 d1
  have d2 : w2.cell? ⟨w.heap.size, 2, none⟩ = some (.map none) := cellB hb2 d2
  have x0 : w2.cell? ⟨g1, 0, none⟩ = some (.string (rangeT a b)) := cellB hb2 x0
  have x1 : w2.cell? ⟨g1, 1, none⟩ = some (.string (decT k)) := cellB hb2 x1
  replace bk : Below w.heap.size w w2 := bk.trans (hb2.mono bk.size)
  clear hb2
  rw [show ((45 : UInt8).toNat : Int) = 45 from rfl, cut_range] at hown2
  obtain ⟨g2, cap2, rfl, hc2, hm2, hcell2⟩ := own_open hown2 (by simp)
  have y0 : w2.cell? ⟨g2, 0, none⟩ = some (.string (decT a)) := hcell2 0 (by simp)
  have y1 : w2.cell? ⟨g2, 1, none⟩ = some (.string (decT b)) := hcell2 1 (by simp)
  simp only [List.length_cons, List.length_nil, Nat.zero_add, Nat.reduceAdd] at hc2 ⊢
  unfold maxLen at hm2
  clear hown2 hcell2
  go_wp2_with fail
  go_region_held3 (fun w' => w'.cell? ⟨w.heap.size, 0, none⟩ = some (.int .u64 low) ∧ w'.cell? ⟨w.heap.size, 1, none⟩ = some (.int .u64 high) ∧ w'.cell? ⟨w.heap.size, 2, none⟩ = some (.map none) ∧ w'.cell? ⟨g1, 0, none⟩ = some (.string (rangeT a b)) ∧ w'.cell? ⟨g1, 1, none⟩ = some (.string (decT k)) ∧ w'.cell? ⟨g2, 0, none⟩ = some (.string (decT a)) ∧ w'.cell? ⟨g2, 1, none⟩ = some (.string (decT b))) (first | (refine ⟨?_, ?_, ?_, ?_, ?_, ?_, ?_⟩ <;> (repeat (first | assumption | (with_reducible refine keepD ?_) | (with_reducible refine keepN ?_) | (with_reducible refine keepV ?_)))) | go_keep)
    (first | ((first | (go_at_call 32) | (go_at_call 34)); refine (intOrName_cr a ha _).mono ?_; rintro e w3 ⟨rfl, hb3⟩; have d0 : w3.cell? ⟨w.heap.size, 0, none⟩ = some (.int .u64 low) := (by refine cellB hb3 ?_; (repeat (first | assumption | (with_reducible refine keepD ?_) | (with_reducible refine keepN ?_) | (with_reducible refine keepV ?_)))); have d1 : w3.cell? ⟨w.heap.size, 1, none⟩ = some (.int .u64 high) := (by refine cellB hb3 ?_; (repeat (first | assumption | (with_reducible refine keepD ?_) | (with_reducible refine keepN ?_) | (with_reducible refine keepV ?_)))); have d2 : w3.cell? ⟨w.heap.size, 2, none⟩ = some (.map none) := (by refine cellB hb3 ?_; (repeat (first | assumption | (with_reducible refine keepD ?_) | (with_reducible refine keepN ?_) | (with_reducible refine keepV ?_)))); have x0 : w3.cell? ⟨g1, 0, none⟩ = some (.string (rangeT a b)) := (by refine cellB hb3 ?_; (repeat (first | assumption | (with_reducible refine keepD ?_) | (with_reducible refine keepN ?_) | (with_reducible refine keepV ?_)))); have x1 : w3.cell? ⟨g1, 1, none⟩ = some (.string (decT k)) := (by refine cellB hb3 ?_; (repeat (first | assumption | (with_reducible refine keepD ?_) | (with_reducible refine keepN ?_) | (with_reducible refine keepV ?_)))); have y0 : w3.cell? ⟨g2, 0, none⟩ = some (.string (decT a)) := (by refine cellB hb3 ?_; (repeat (first | assumption | (with_reducible refine keepD ?_) | (with_reducible refine keepN ?_) | (with_reducible refine keepV ?_)))); have y1 : w3.cell? ⟨g2, 1, none⟩ = some (.string (decT b)) := (by refine cellB hb3 ?_; (repeat (first | assumption | (with_reducible refine keepD ?_) | (with_reducible refine keepN ?_) | (with_reducible refine keepV ?_)))); replace bk : Below w.heap.size w w3 := Below.trans (by repeat (first | (with_reducible assumption) | (with_reducible exact Below.refl _ _) | (with_reducible refine below_drewN ?_ _) | (with_reducible refine Below.drew ?_) | (with_reducible refine Below.alloc ?_ (by first | omega | (simp <;> omega)) _))) (hb3.mono (by have := bk.size; first | omega | (simp <;> omega))); clear hb3))
  go_wp2_with fail
  go_region_held3 (fun w' => w'.cell? ⟨w.heap.size, 0, none⟩ = some (.int .u64 low) ∧ w'.cell? ⟨w.heap.size, 1, none⟩ = some (.int .u64 high) ∧ w'.cell? ⟨w.heap.size, 2, none⟩ = some (.map none) ∧ w'.cell? ⟨g1, 0, none⟩ = some (.string (rangeT a b)) ∧ w'.cell? ⟨g1, 1, none⟩ = some (.string (decT k)) ∧ w'.cell? ⟨g2, 0, none⟩ = some (.string (decT a)) ∧ w'.cell? ⟨g2, 1, none⟩ = some (.string (decT b))) (first | (refine ⟨?_, ?_, ?_, ?_, ?_, ?_, ?_⟩ <;> (repeat (first | assumption | (with_reducible refine keepD ?_) | (with_reducible refine keepN ?_) | (with_reducible refine keepV ?_)))) | go_keep)
    (first | ((first | (go_at_call 32) | (go_at_call 34)); refine (intOrName_cr b hb _).mono ?_; rintro e w4 ⟨rfl, hb4⟩; have d0 : w4.cell? ⟨w.heap.size, 0, none⟩ = some (.int .u64 low) := (by refine cellB hb4 ?_; (repeat (first | assumption | (with_reducible refine keepD ?_) | (with_reducible refine keepN ?_) | (with_reducible refine keepV ?_)))); have d1 : w4.cell? ⟨w.heap.size, 1, none⟩ = some (.int .u64 high) := (by refine cellB hb4 ?_; (repeat (first | assumption | (with_reducible refine keepD ?_) | (with_reducible refine keepN ?_) | (with_reducible refine keepV ?_)))); have d2 : w4.cell? ⟨w.heap.size, 2, none⟩ = some (.map none) := (by refine cellB hb4 ?_; (repeat (first | assumption | (with_reducible refine keepD ?_) | (with_reducible refine keepN ?_) | (with_reducible refine keepV ?_)))); have x0 : w4.cell? ⟨g1, 0, none⟩ = some (.string (rangeT a b)) := (by refine cellB hb4 ?_; (repeat (first | assumption | (with_reducible refine keepD ?_) | (with_reducible refine keepN ?_) | (with_reducible refine keepV ?_)))); have x1 : w4.cell? ⟨g1, 1, none⟩ = some (.string (decT k)) := (by refine cellB hb4 ?_; (repeat (first | assumption | (with_reducible refine keepD ?_) | (with_reducible refine keepN ?_) | (with_reducible refine keepV ?_)))); have y0 : w4.cell? ⟨g2, 0, none⟩ = some (.string (decT a)) := (by refine cellB hb4 ?_; (repeat (first | assumption | (with_reducible refine keepD ?_) | (with_reducible refine keepN ?_) | (with_reducible refine keepV ?_)))); have y1 : w4.cell? ⟨g2, 1, none⟩ = some (.string (decT b)) := (by refine cellB hb4 ?_; (repeat (first | assumption | (with_reducible refine keepD ?_) | (with_reducible refine keepN ?_) | (with_reducible refine keepV ?_)))); replace bk : Below w.heap.size w w4 := Below.trans (by repeat (first | (with_reducible assumption) | (with_reducible exact Below.refl _ _) | (with_reducible refine below_drewN ?_ _) | (with_reducible refine Below.drew ?_) | (with_reducible refine Below.alloc ?_ (by first | omega | (simp <;> omega)) _))) (hb4.mono (by have := bk.size; first | omega | (simp <;> omega))); clear hb4))
  go_wp2_with fail
  refine (mustInt_cr k hk _).mono ?_
  rintro e w5 ⟨rfl, hb5⟩
  have d0 : w5.cell? ⟨w.heap.size, 0, none⟩ = some (.int .u64 low) := cellB hb5 d0
  have d1 : w5.cell? ⟨w.heap.size, 1, none⟩ = some (.int .u64 high) := cellB hb5 d1
  have d2 : w5.cell? ⟨w.heap.size, 2, none⟩ = some (.map none) := cellB hb5 d2
  have x0 : w5.cell? ⟨g1, 0, none⟩ = some (.string (rangeT a b)) := cellB hb5 x0
  have x1 : w5.cell? ⟨g1, 1, none⟩ = some (.string (decT k)) := cellB hb5 x1
  have y0 : w5.cell? ⟨g2, 0, none⟩ = some (.string (decT a)) := cellB hb5 y0
  have y1 : w5.cell? ⟨g2, 1, none⟩ = some (.string (decT b)) := cellB hb5 y1
  replace bk : Below w.heap.size w w5 := bk.trans (hb5.mono bk.size)
  clear hb5
  go_wp2_with fail
  refine (errNew_any _ _).mono ?_
  rintro e w9 ⟨⟨t, p, rfl⟩, rfl⟩
  go_wp2_with fail
  refine bodyPost_ret (v := .tuple #[.int .u64 0, .iface t p]) (by simp [results, Tryd.results23, go_sem]) rfl ⟨⟨t, p, rfl⟩, ?_⟩
  have nk : w.heap.size ≤ w5.heap.size := bk.size
  exact (by repeat (first | (with_reducible assumption) | (with_reducible exact Below.refl _ _) | (with_reducible refine below_drewN ?_ _) | (with_reducible refine Below.drew ?_) | (with_reducible refine Below.alloc ?_ (by first | omega | (simp <;> omega)) _)))

set_option maxRecDepth 100000 in
set_option maxHeartbeats 4000000 in
theorem rs_loone (low high a b k : Nat) (hh : high ≤ 62) (ha : a < 9223372036854775808) (hb : b < 9223372036854775808) (hk : k < 9223372036854775808) (T : ByteArray) (hs9 : T.size ≤ 62) (HC : Hid (cutB 47 T = [rangeT a b, decT k])) (w : World) (h1 : a < low) (h4 : Hid (k = 1)) :
    Calls Tryd.prog 23 #[.string (T), .agg #[.int .u64 low, .int .u64 high, .map none]] w (RangeErr w) := by
  have hsz := rangeT_size a b (by omega) (by omega)
  have hsk := decT_size k (by omega)
  have s1 := decT_star 42 (by omega) a 42 rfl
  have s2 := decT_star 63 (by omega) a 63 rfl
  have i1 : ((a : Int) < (low : Int)) = True := by simp; exact h1
  have i4 : ((1 : Int) < (k : Int)) = False := by have := h4.out; simp; omega
  have i5 : ((k : Int) == 0) = false := by have := h4.out; simp; omega
  have i6 : ((k : Int) = 0) = False := by have := h4.out; simp; omega
  go_enter Tryd.func23, Tryd.ntmps23
  go_wp2_with fail
  have e0 : (w.alloc (.cells #[.int .u64 low, .int .u64 high, .map none] 49)).heap[w.heap.size]? = some (.cells #[.int .u64 low, .int .u64 high, .map none] 49) := heap_alloc_new w _
  have hw0 : Below w.heap.size w (w.alloc (.cells #[.int .u64 low, .int .u64 high, .map none] 49)) := (by repeat (first | (with_reducible assumption) | (with_reducible exact Below.refl _ _) | (with_reducible refine below_drewN ?_ _) | (with_reducible refine Below.drew ?_) | (with_reducible refine Below.alloc ?_ (by first | omega | (simp <;> omega)) _)))
  refine (splitSv_any (T) 47 (by omega) _).mono ?_
  rintro e w1 ⟨v1, rfl, hown1, hb1⟩
  have d0 : w1.cell? ⟨w.heap.size, 0, none⟩ = some (.int .u64 low) := cellB hb1 (cell_of_row _ _ 0 _ _ (0, 0) e0)
  have d1 : w1.cell? ⟨w.heap.size, 1, none⟩ = some (.int .u64 high) := cellB hb1 (cell_of_row _ _ 1 _ _ (0, 0) e0)
  have d2 : w1.cell? ⟨w.heap.size, 2, none⟩ = some (.map none) := cellB hb1 (cell_of_row _ _ 2 _ _ (0, 0) e0)
  have bk : Below w.heap.size w w1 := hw0.trans (hb1.mono hw0.size)
  clear hb1 hw0 e0
  rw [show ((47 : UInt8).toNat : Int) = 47 from rfl, HC.out] at hown1
  obtain ⟨g1, cap1, rfl, hc1, hm1, hcell1⟩ := own_open hown1 (by simp)
  have x0 : w1.cell? ⟨g1, 0, none⟩ = some (.string (rangeT a b)) := hcell1 0 (by simp)
  have x1 : w1.cell? ⟨g1, 1, none⟩ = some (.string (decT k)) := hcell1 1 (by simp)
  simp only [List.length_cons, List.length_nil, Nat.zero_add, Nat.reduceAdd] at hc1 ⊢
  unfold maxLen at hm1
  clear hown1 hcell1
  go_wp2_with fail
  refine (splitSv_any (rangeT a b) 45 (by omega) _).mono ?_
  rintro e w2 ⟨v2, rfl, hown2, hb2⟩
  have d0 : w2.cell? ⟨w.heap.size, 0, none⟩ = some (.int .u64 low) := cellB hb2 d0
  have d1 : w2.cell? ⟨w.heap.size, 1, none⟩ = some (.int .u64 high) := cellB hb2 d1
  have d2 : w2.cell? ⟨w.heap.size, 2, none⟩ = some (.map none) := cellB hb2 d2
  have x0 : w2.cell? ⟨g1, 0, none⟩ = some (.string (rangeT a b)) := cellB hb2 x0
  have x1 : w2.cell? ⟨g1, 1, none⟩ = some (.string (decT k)) := cellB hb2 x1
  replace bk : Below w.heap.size w w2 := bk.trans (hb2.mono bk.size)
  clear hb2
  rw [show ((45 : UInt8).toNat : Int) = 45 from rfl, cut_range] at hown2
  obtain ⟨g2, cap2, rfl, hc2, hm2, hcell2⟩ := own_open hown2 (by simp)
  have y0 : w2.cell? ⟨g2, 0, none⟩ = some (.string (decT a)) := hcell2 0 (by simp)
  have y1 : w2.cell? ⟨g2, 1, none⟩ = some (.string (decT b)) := hcell2 1 (by simp)
  simp only [List.length_cons, List.length_nil, Nat.zero_add, Nat.reduceAdd] at hc2 ⊢
  unfold maxLen at hm2
  clear hown2 hcell2
  go_wp2_with fail
  go_region_held3 (fun w' => w'.cell? ⟨w.heap.size, 0, none⟩ = some (.int .u64 low) ∧ w'.cell? ⟨w.heap.size, 1, none⟩ = some (.int .u64 high) ∧ w'.cell? ⟨w.heap.size, 2, none⟩ = some (.map none) ∧ w'.cell? ⟨g1, 0, none⟩ = some (.string (rangeT a b)) ∧ w'.cell? ⟨g1, 1, none⟩ = some (.string (decT k)) ∧ w'.cell? ⟨g2, 0, none⟩ = some (.string (decT a)) ∧ w'.cell? ⟨g2, 1, none⟩ = some (.string (decT b))) (first | (refine ⟨?_, ?_, ?_, ?_, ?_, ?_, ?_⟩ <;> (repeat (first | assumption | (with_reducible refine keepD ?_) | (with_reducible refine keepN ?_) | (with_reducible refine keepV ?_)))) | go_keep)
    (first | ((first | (go_at_call 32) | (go_at_call 34)); refine (intOrName_cr a ha _).mono ?_; rintro e w3 ⟨rfl, hb3⟩; have d0 : w3.cell? ⟨w.heap.size, 0, none⟩ = some (.int .u64 low) := (by refine cellB hb3 ?_; (repeat (first | assumption | (with_reducible refine keepD ?_) | (with_reducible refine keepN ?_) | (with_reducible refine keepV ?_)))); have d1 : w3.cell? ⟨w.heap.size, 1, none⟩ = some (.int .u64 high) := (by refine cellB hb3 ?_; (repeat (first | assumption | (with_reducible refine keepD ?_) | (with_reducible refine keepN ?_) | (with_reducible refine keepV ?_)))); have d2 : w3.cell? ⟨w.heap.size, 2, none⟩ = some (.map none) := (by refine cellB hb3 ?_; (repeat (first | assumption | (with_reducible refine keepD ?_) | (with_reducible refine keepN ?_) | (with_reducible refine keepV ?_)))); have x0 : w3.cell? ⟨g1, 0, none⟩ = some (.string (rangeT a b)) := (by refine cellB hb3 ?_; (repeat (first | assumption | (with_reducible refine keepD ?_) | (with_reducible refine keepN ?_) | (with_reducible refine keepV ?_)))); have x1 : w3.cell? ⟨g1, 1, none⟩ = some (.string (decT k)) := (by refine cellB hb3 ?_; (repeat (first | assumption | (with_reducible refine keepD ?_) | (with_reducible refine keepN ?_) | (with_reducible refine keepV ?_)))); have y0 : w3.cell? ⟨g2, 0, none⟩ = some (.string (decT a)) := (by refine cellB hb3 ?_; (repeat (first | assumption | (with_reducible refine keepD ?_) | (with_reducible refine keepN ?_) | (with_reducible refine keepV ?_)))); have y1 : w3.cell? ⟨g2, 1, none⟩ = some (.string (decT b)) := (by refine cellB hb3 ?_; (repeat (first | assumption | (with_reducible refine keepD ?_) | (with_reducible refine keepN ?_) | (with_reducible refine keepV ?_)))); replace bk : Below w.heap.size w w3 := Below.trans (by repeat (first | (with_reducible assumption) | (with_reducible exact Below.refl _ _) | (with_reducible refine below_drewN ?_ _) | (with_reducible refine Below.drew ?_) | (with_reducible refine Below.alloc ?_ (by first | omega | (simp <;> omega)) _))) (hb3.mono (by have := bk.size; first | omega | (simp <;> omega))); clear hb3))
  go_wp2_with fail
  go_region_held3 (fun w' => w'.cell? ⟨w.heap.size, 0, none⟩ = some (.int .u64 low) ∧ w'.cell? ⟨w.heap.size, 1, none⟩ = some (.int .u64 high) ∧ w'.cell? ⟨w.heap.size, 2, none⟩ = some (.map none) ∧ w'.cell? ⟨g1, 0, none⟩ = some (.string (rangeT a b)) ∧ w'.cell? ⟨g1, 1, none⟩ = some (.string (decT k)) ∧ w'.cell? ⟨g2, 0, none⟩ = some (.string (decT a)) ∧ w'.cell? ⟨g2, 1, none⟩ = some (.string (decT b))) (first | (refine ⟨?_, ?_, ?_, ?_, ?_, ?_, ?_⟩ <;> (repeat (first | assumption | (with_reducible refine keepD ?_) | (with_reducible refine keepN ?_) | (with_reducible refine keepV ?_)))) | go_keep)
    (first | ((first | (go_at_call 32) | (go_at_call 34)); refine (intOrName_cr b hb _).mono ?_; rintro e w4 ⟨rfl, hb4⟩; have d0 : w4.cell? ⟨w.heap.size, 0, none⟩ = some (.int .u64 low) := (by refine cellB hb4 ?_; (repeat (first | assumption | (with_reducible refine keepD ?_) | (with_reducible refine keepN ?_) | (with_reducible refine keepV ?_)))); have d1 : w4.cell? ⟨w.heap.size, 1, none⟩ = some (.int .u64 high) := (by refine cellB hb4 ?_; (repeat (first | assumption | (with_reducible refine keepD ?_) | (with_reducible refine keepN ?_) | (with_reducible refine keepV ?_)))); have d2 : w4.cell? ⟨w.heap.size, 2, none⟩ = some (.map none) := (by refine cellB hb4 ?_; (repeat (first | assumption | (with_reducible refine keepD ?_) | (with_reducible refine keepN ?_) | (with_reducible refine keepV ?_)))); have x0 : w4.cell? ⟨g1, 0, none⟩ = some (.string (rangeT a b)) := (by refine cellB hb4 ?_; (repeat (first | assumption | (with_reducible refine keepD ?_) | (with_reducible refine keepN ?_) | (with_reducible refine keepV ?_)))); have x1 : w4.cell? ⟨g1, 1, none⟩ = some (.string (decT k)) := (by refine cellB hb4 ?_; (repeat (first | assumption | (with_reducible refine keepD ?_) | (with_reducible refine keepN ?_) | (with_reducible refine keepV ?_)))); have y0 : w4.cell? ⟨g2, 0, none⟩ = some (.string (decT a)) := (by refine cellB hb4 ?_; (repeat (first | assumption | (with_reducible refine keepD ?_) | (with_reducible refine keepN ?_) | (with_reducible refine keepV ?_)))); have y1 : w4.cell? ⟨g2, 1, none⟩ = some (.string (decT b)) := (by refine cellB hb4 ?_; (repeat (first | assumption | (with_reducible refine keepD ?_) | (with_reducible refine keepN ?_) | (with_reducible refine keepV ?_)))); replace bk : Below w.heap.size w w4 := Below.trans (by repeat (first | (with_reducible assumption) | (with_reducible exact Below.refl _ _) | (with_reducible refine below_drewN ?_ _) | (with_reducible refine Below.drew ?_) | (with_reducible refine Below.alloc ?_ (by first | omega | (simp <;> omega)) _))) (hb4.mono (by have := bk.size; first | omega | (simp <;> omega))); clear hb4))
  go_wp2_with fail
  refine (mustInt_cr k hk _).mono ?_
  rintro e w5 ⟨rfl, hb5⟩
  have d0 : w5.cell? ⟨w.heap.size, 0, none⟩ = some (.int .u64 low) := cellB hb5 d0
  have d1 : w5.cell? ⟨w.heap.size, 1, none⟩ = some (.int .u64 high) := cellB hb5 d1
  have d2 : w5.cell? ⟨w.heap.size, 2, none⟩ = some (.map none) := cellB hb5 d2
  have x0 : w5.cell? ⟨g1, 0, none⟩ = some (.string (rangeT a b)) := cellB hb5 x0
  have x1 : w5.cell? ⟨g1, 1, none⟩ = some (.string (decT k)) := cellB hb5 x1
  have y0 : w5.cell? ⟨g2, 0, none⟩ = some (.string (decT a)) := cellB hb5 y0
  have y1 : w5.cell? ⟨g2, 1, none⟩ = some (.string (decT b)) := cellB hb5 y1
  replace bk : Below w.heap.size w w5 := bk.trans (hb5.mono bk.size)
  clear hb5
  go_wp2_with fail
  refine (errNew_any _ _).mono ?_
  rintro e w9 ⟨⟨t, p, rfl⟩, rfl⟩
  go_wp2_with fail
  refine bodyPost_ret (v := .tuple #[.int .u64 0, .iface t p]) (by simp [results, Tryd.results23, go_sem]) rfl ⟨⟨t, p, rfl⟩, ?_⟩
  have nk : w.heap.size ≤ w5.heap.size := bk.size
  exact (by repeat (first | (with_reducible assumption) | (with_reducible exact Below.refl _ _) | (with_reducible refine below_drewN ?_ _) | (with_reducible refine Below.drew ?_) | (with_reducible refine Below.alloc ?_ (by first | omega | (simp <;> omega)) _)))

set_option maxRecDepth 100000 in
set_option maxHeartbeats 4000000 in
theorem rs_lonul (low high a b k : Nat) (hh : high ≤ 62) (ha : a < 9223372036854775808) (hb : b < 9223372036854775808) (hk : k < 9223372036854775808) (T : ByteArray) (hs9 : T.size ≤ 62) (HC : Hid (cutB 47 T = [rangeT a b, decT k])) (w : World) (h1 : a < low) (h4 : Hid (k = 0)) :
    Calls Tryd.prog 23 #[.string (T), .agg #[.int .u64 low, .int .u64 high, .map none]] w (RangeErr w) := by
  have hsz := rangeT_size a b (by omega) (by omega)
  have hsk := decT_size k (by omega)
  have s1 := decT_star 42 (by omega) a 42 rfl
  have s2 := decT_star 63 (by omega) a 63 rfl
  have i1 : ((a : Int) < (low : Int)) = True := by simp; exact h1
  have i4 : ((1 : Int) < (k : Int)) = False := by have := h4.out; simp; omega
  have i5 : ((k : Int) == 0) = true := by have := h4.out; simp; omega
  have i6 : ((k : Int) = 0) = True := by have := h4.out; simp; omega
  go_enter Tryd.func23, Tryd.ntmps23
  go_wp2_with fail
  have e0 : (w.alloc (.cells #[.int .u64 low, .int .u64 high, .map none] 49)).heap[w.heap.size]? = some (.cells #[.int .u64 low, .int .u64 high, .map none] 49) := heap_alloc_new w _
  have hw0 : Below w.heap.size w (w.alloc (.cells #[.int .u64 low, .int .u64 high, .map none] 49)) := (by repeat (first | (with_reducible assumption) | (with_reducible exact Below.refl _ _) | (with_reducible refine below_drewN ?_ _) | (with_reducible refine Below.drew ?_) | (with_reducible refine Below.alloc ?_ (by first | omega | (simp <;> omega)) _)))
  refine (splitSv_any (T) 47 (by omega) _).mono ?_
  rintro e w1 ⟨v1, rfl, hown1, hb1⟩
  have d0 : w1.cell? ⟨w.heap.size, 0, none⟩ = some (.int .u64 low) := cellB hb1 (cell_of_row _ _ 0 _ _ (0, 0) e0)
  have d1 : w1.cell? ⟨w.heap.size, 1, none⟩ = some (.int .u64 high) := cellB hb1 (cell_of_row _ _ 1 _ _ (0, 0) e0)
  have d2 : w1.cell? ⟨w.heap.size, 2, none⟩ = some (.map none) := cellB hb1 (cell_of_row _ _ 2 _ _ (0, 0) e0)
  have bk : Below w.heap.size w w1 := hw0.trans (hb1.mono hw0.size)
  clear hb1 hw0 e0
  rw [show ((47 : UInt8).toNat : Int) = 47 from rfl, HC.out] at hown1
  obtain ⟨g1, cap1, rfl, hc1, hm1, hcell1⟩ := own_open hown1 (by simp)
  have x0 : w1.cell? ⟨g1, 0, none⟩ = some (.string (rangeT a b)) := hcell1 0 (by simp)
  have x1 : w1.cell? ⟨g1, 1, none⟩ = some (.string (decT k)) := hcell1 1 (by simp)
  simp only [List.length_cons, List.length_nil, Nat.zero_add, Nat.reduceAdd] at hc1 ⊢
  unfold maxLen at hm1
  clear hown1 hcell1
  go_wp2_with fail
  refine (splitSv_any (rangeT a b) 45 (by omega) _).mono ?_
  rintro e w2 ⟨v2, rfl, hown2, hb2⟩
  have d0 : w2.cell? ⟨w.heap.size, 0, none⟩ = some (.int .u64 low) := cellB hb2 d0
  have d1 : w2.cell? ⟨w.heap.size, 1, none⟩ = some (.int .u64 high) := cellB hb2 d1
  have d2 : w2.cell? ⟨w.heap.size, 2, none⟩ = some (.map none) := cellB hb2 d2
  have x0 : w2.cell? ⟨g1, 0, none⟩ = some (.string (rangeT a b)) := cellB hb2 x0
  have x1 : w2.cell? ⟨g1, 1, none⟩ = some (.string (decT k)) := cellB hb2 x1
  replace bk : Below w.heap.size w w2 := bk.trans (hb2.mono bk.size)
  clear hb2
  rw [show ((45 : UInt8).toNat : Int) = 45 from rfl, cut_range] at hown2
  obtain ⟨g2, cap2, rfl, hc2, hm2, hcell2⟩ := own_open hown2 (by simp)
  have y0 : w2.cell? ⟨g2, 0, none⟩ = some (.string (decT a)) := hcell2 0 (by simp)
  have y1 : w2.cell? ⟨g2, 1, none⟩ = some (.string (decT b)) := hcell2 1 (by simp)
  simp only [List.length_cons, List.length_nil, Nat.zero_add, Nat.reduceAdd] at hc2 ⊢
  unfold maxLen at hm2
  clear hown2 hcell2
  go_wp2_with fail
  go_region_held3 (fun w' => w'.cell? ⟨w.heap.size, 0, none⟩ = some (.int .u64 low) ∧ w'.cell? ⟨w.heap.size, 1, none⟩ = some (.int .u64 high) ∧ w'.cell? ⟨w.heap.size, 2, none⟩ = some (.map none) ∧ w'.cell? ⟨g1, 0, none⟩ = some (.string (rangeT a b)) ∧ w'.cell? ⟨g1, 1, none⟩ = some (.string (decT k)) ∧ w'.cell? ⟨g2, 0, none⟩ = some (.string (decT a)) ∧ w'.cell? ⟨g2, 1, none⟩ = some (.string (decT b))) (first | (refine ⟨?_, ?_, ?_, ?_, ?_, ?_, ?_⟩ <;> (repeat (first | assumption | (with_reducible refine keepD ?_) | (with_reducible refine keepN ?_) | (with_reducible refine keepV ?_)))) | go_keep)
    (first | ((first | (go_at_call 32) | (go_at_call 34)); refine (intOrName_cr a ha _).mono ?_; rintro e w3 ⟨rfl, hb3⟩; have d0 : w3.cell? ⟨w.heap.size, 0, none⟩ = some (.int .u64 low) := (by refine cellB hb3 ?_; (repeat (first | assumption | (with_reducible refine keepD ?_) | (with_reducible refine keepN ?_) | (with_reducible refine keepV ?_)))); have d1 : w3.cell? ⟨w.heap.size, 1, none⟩ = some (.int .u64 high) := (by refine cellB hb3 ?_; (repeat (first | assumption | (with_reducible refine keepD ?_) | (with_reducible refine keepN ?_) | (with_reducible refine keepV ?_)))); have d2 : w3.cell? ⟨w.heap.size, 2, none⟩ = some (.map none) := (by refine cellB hb3 ?_; (repeat (first | assumption | (with_reducible refine keepD ?_) | (with_reducible refine keepN ?_) | (with_reducible refine keepV ?_)))); have x0 : w3.cell? ⟨g1, 0, none⟩ = some (.string (rangeT a b)) := (by refine cellB hb3 ?_; (repeat (first | assumption | (with_reducible refine keepD ?_) | (with_reducible refine keepN ?_) | (with_reducible refine keepV ?_)))); have x1 : w3.cell? ⟨g1, 1, none⟩ = some (.string (decT k)) := (by refine cellB hb3 ?_; (repeat (first | assumption | (with_reducible refine keepD ?_) | (with_reducible refine keepN ?_) | (with_reducible refine keepV ?_)))); have y0 : w3.cell? ⟨g2, 0, none⟩ = some (.string (decT a)) := (by refine cellB hb3 ?_; (repeat (first | assumption | (with_reducible refine keepD ?_) | (with_reducible refine keepN ?_) | (with_reducible refine keepV ?_)))); have y1 : w3.cell? ⟨g2, 1, none⟩ = some (.string (decT b)) := (by refine cellB hb3 ?_; (repeat (first | assumption | (with_reducible refine keepD ?_) | (with_reducible refine keepN ?_) | (with_reducible refine keepV ?_)))); replace bk : Below w.heap.size w w3 := Below.trans (by repeat (first | (with_reducible assumption) | (with_reducible exact Below.refl _ _) | (with_reducible refine below_drewN ?_ _) | (with_reducible refine Below.drew ?_) | (with_reducible refine Below.alloc ?_ (by first | omega | (simp <;> omega)) _))) (hb3.mono (by have := bk.size; first | omega | (simp <;> omega))); clear hb3))
  go_wp2_with fail
  go_region_held3 (fun w' => w'.cell? ⟨w.heap.size, 0, none⟩ = some (.int .u64 low) ∧ w'.cell? ⟨w.heap.size, 1, none⟩ = some (.int .u64 high) ∧ w'.cell? ⟨w.heap.size, 2, none⟩ = some (.map none) ∧ w'.cell? ⟨g1, 0, none⟩ = some (.string (rangeT a b)) ∧ w'.cell? ⟨g1, 1, none⟩ = some (.string (decT k)) ∧ w'.cell? ⟨g2, 0, none⟩ = some (.string (decT a)) ∧ w'.cell? ⟨g2, 1, none⟩ = some (.string (decT b))) (first | (refine ⟨?_, ?_, ?_, ?_, ?_, ?_, ?_⟩ <;> (repeat (first | assumption | (with_reducible refine keepD ?_) | (with_reducible refine keepN ?_) | (with_reducible refine keepV ?_)))) | go_keep)
    (first | ((first | (go_at_call 32) | (go_at_call 34)); refine (intOrName_cr b hb _).mono ?_; rintro e w4 ⟨rfl, hb4⟩; have d0 : w4.cell? ⟨w.heap.size, 0, none⟩ = some (.int .u64 low) := (by refine cellB hb4 ?_; (repeat (first | assumption | (with_reducible refine keepD ?_) | (with_reducible refine keepN ?_) | (with_reducible refine keepV ?_)))); have d1 : w4.cell? ⟨w.heap.size, 1, none⟩ = some (.int .u64 high) := (by refine cellB hb4 ?_; (repeat (first | assumption | (with_reducible refine keepD ?_) | (with_reducible refine keepN ?_) | (with_reducible refine keepV ?_)))); have d2 : w4.cell? ⟨w.heap.size, 2, none⟩ = some (.map none) := (by refine cellB hb4 ?_; (repeat (first | assumption | (with_reducible refine keepD ?_) | (with_reducible refine keepN ?_) | (with_reducible refine keepV ?_)))); have x0 : w4.cell? ⟨g1, 0, none⟩ = some (.string (rangeT a b)) := (by refine cellB hb4 ?_; (repeat (first | assumption | (with_reducible refine keepD ?_) | (with_reducible refine keepN ?_) | (with_reducible refine keepV ?_)))); have x1 : w4.cell? ⟨g1, 1, none⟩ = some (.string (decT k)) := (by refine cellB hb4 ?_; (repeat (first | assumption | (with_reducible refine keepD ?_) | (with_reducible refine keepN ?_) | (with_reducible refine keepV ?_)))); have y0 : w4.cell? ⟨g2, 0, none⟩ = some (.string (decT a)) := (by refine cellB hb4 ?_; (repeat (first | assumption | (with_reducible refine keepD ?_) | (with_reducible refine keepN ?_) | (with_reducible refine keepV ?_)))); have y1 : w4.cell? ⟨g2, 1, none⟩ = some (.string (decT b)) := (by refine cellB hb4 ?_; (repeat (first | assumption | (with_reducible refine keepD ?_) | (with_reducible refine keepN ?_) | (with_reducible refine keepV ?_)))); replace bk : Below w.heap.size w w4 := Below.trans (by repeat (first | (with_reducible assumption) | (with_reducible exact Below.refl _ _) | (with_reducible refine below_drewN ?_ _) | (with_reducible refine Below.drew ?_) | (with_reducible refine Below.alloc ?_ (by first | omega | (simp <;> omega)) _))) (hb4.mono (by have := bk.size; first | omega | (simp <;> omega))); clear hb4))
  go_wp2_with fail
  refine (mustInt_cr k hk _).mono ?_
  rintro e w5 ⟨rfl, hb5⟩
  have d0 : w5.cell? ⟨w.heap.size, 0, none⟩ = some (.int .u64 low) := cellB hb5 d0
  have d1 : w5.cell? ⟨w.heap.size, 1, none⟩ = some (.int .u64 high) := cellB hb5 d1
  have d2 : w5.cell? ⟨w.heap.size, 2, none⟩ = some (.map none) := cellB hb5 d2
  have x0 : w5.cell? ⟨g1, 0, none⟩ = some (.string (rangeT a b)) := cellB hb5 x0
  have x1 : w5.cell? ⟨g1, 1, none⟩ = some (.string (decT k)) := cellB hb5 x1
  have y0 : w5.cell? ⟨g2, 0, none⟩ = some (.string (decT a)) := cellB hb5 y0
  have y1 : w5.cell? ⟨g2, 1, none⟩ = some (.string (decT b)) := cellB hb5 y1
  replace bk : Below w.heap.size w w5 := bk.trans (hb5.mono bk.size)
  clear hb5
  go_wp2_with fail
  refine (errNew_any _ _).mono ?_
  rintro e w9 ⟨⟨t, p, rfl⟩, rfl⟩
  go_wp2_with fail
  refine bodyPost_ret (v := .tuple #[.int .u64 0, .iface t p]) (by simp [results, Tryd.results23, go_sem]) rfl ⟨⟨t, p, rfl⟩, ?_⟩
  have nk : w.heap.size ≤ w5.heap.size := bk.size
  exact (by repeat (first | (with_reducible assumption) | (with_reducible exact Below.refl _ _) | (with_reducible refine below_drewN ?_ _) | (with_reducible refine Below.drew ?_) | (with_reducible refine Below.alloc ?_ (by first | omega | (simp <;> omega)) _)))

set_option maxRecDepth 100000 in
set_option maxHeartbeats 4000000 in
theorem rs_himany (low high a b k : Nat) (hh : high ≤ 62) (ha : a < 9223372036854775808) (hb : b < 9223372036854775808) (hk : k < 9223372036854775808) (T : ByteArray) (hs9 : T.size ≤ 62) (HC : Hid (cutB 47 T = [rangeT a b, decT k])) (w : World) (h1 : low ≤ a) (h2 : high < b) (h4 : 1 < k) (h5 : k ≤ 4294967296) :
    Calls Tryd.prog 23 #[.string (T), .agg #[.int .u64 low, .int .u64 high, .map none]] w (RangeErr w) := by
  have hsz := rangeT_size a b (by omega) (by omega)
  have hsk := decT_size k (by omega)
  have s1 := decT_star 42 (by omega) a 42 rfl
  have s2 := decT_star 63 (by omega) a 63 rfl
  have i1 : ((a : Int) < (low : Int)) = False := by simp; omega
  have i2 : ((high : Int) < (b : Int)) = True := by simp; exact h2
  have i4 : ((1 : Int) < (k : Int)) = True := by simp; omega
  have i5 : ((k : Int) == 0) = false := by simp; omega
  have i6 : ((k : Int) = 0) = False := by simp; omega
  go_enter Tryd.func23, Tryd.ntmps23
  go_wp2_with fail
  have e0 : (w.alloc (.cells #[.int .u64 low, .int .u64 high, .map none] 49)).heap[w.heap.size]? = some (.cells #[.int .u64 low, .int .u64 high, .map none] 49) := heap_alloc_new w _
  have hw0 : Below w.heap.size w (w.alloc (.cells #[.int .u64 low, .int .u64 high, .map none] 49)) := (by repeat (first | (with_reducible assumption) | (with_reducible exact Below.refl _ _) | (with_reducible refine below_drewN ?_ _) | (with_reducible refine Below.drew ?_) | (with_reducible refine Below.alloc ?_ (by first | omega | (simp <;> omega)) _)))
  refine (splitSv_any (T) 47 (by omega) _).mono ?_
  rintro e w1 ⟨v1, rfl, hown1, hb1⟩
  have d0 : w1.cell? ⟨w.heap.size, 0, none⟩ = some (.int .u64 low) := cellB hb1 (cell_of_row _ _ 0 _ _ (0, 0) e0)
  have d1 : w1.cell? ⟨w.heap.size, 1, none⟩ = some (.int .u64 high) := cellB hb1 (cell_of_row _ _ 1 _ _ (0, 0) e0)
  have d2 : w1.cell? ⟨w.heap.size, 2, none⟩ = some (.map none) := cellB hb1 (cell_of_row _ _ 2 _ _ (0, 0) e0)
  have bk : Below w.heap.size w w1 := hw0.trans (hb1.mono hw0.size)
  clear hb1 hw0 e0
  rw [show ((47 : UInt8).toNat : Int) = 47 from rfl, HC.out] at hown1
  obtain ⟨g1, cap1, rfl, hc1, hm1, hcell1⟩ := own_open hown1 (by simp)
  have x0 : w1.cell? ⟨g1, 0, none⟩ = some (.string (rangeT a b)) := hcell1 0 (by simp)
  have x1 : w1.cell? ⟨g1, 1, none⟩ = some (.string (decT k)) := hcell1 1 (by simp)
  simp only [List.length_cons, List.length_nil, Nat.zero_add, Nat.reduceAdd] at hc1 ⊢
  unfold maxLen at hm1
  clear hown1 hcell1
  go_wp2_with fail
  refine (splitSv_any (rangeT a b) 45 (by omega) _).mono ?_
  rintro e w2 ⟨v2, rfl, hown2, hb2⟩
  have d0 : w2.cell? ⟨w.heap.size, 0, none⟩ = some (.int .u64 low) := cellB hb2 d0
  have d1 : w2.cell? ⟨w.heap.size, 1, none⟩ = some (.int .u64 high) := cellB hb2 d1
  have d2 : w2.cell? ⟨w.heap.size, 2, none⟩ = some (.map none) := cellB hb2 d2
  have x0 : w2.cell? ⟨g1, 0, none⟩ = some (.string (rangeT a b)) := cellB hb2 x0
  have x1 : w2.cell? ⟨g1, 1, none⟩ = some (.string (decT k)) := cellB hb2 x1
  replace bk : Below w.heap.size w w2 := bk.trans (hb2.mono bk.size)
  clear hb2
  rw [show ((45 : UInt8).toNat : Int) = 45 from rfl, cut_range] at hown2
  obtain ⟨g2, cap2, rfl, hc2, hm2, hcell2⟩ := own_open hown2 (by simp)
  have y0 : w2.cell? ⟨g2, 0, none⟩ = some (.string (decT a)) := hcell2 0 (by simp)
  have y1 : w2.cell? ⟨g2, 1, none⟩ = some (.string (decT b)) := hcell2 1 (by simp)
  simp only [List.length_cons, List.length_nil, Nat.zero_add, Nat.reduceAdd] at hc2 ⊢
  unfold maxLen at hm2
  clear hown2 hcell2
  go_wp2_with fail
  go_region_held3 (fun w' => w'.cell? ⟨w.heap.size, 0, none⟩ = some (.int .u64 low) ∧ w'.cell? ⟨w.heap.size, 1, none⟩ = some (.int .u64 high) ∧ w'.cell? ⟨w.heap.size, 2, none⟩ = some (.map none) ∧ w'.cell? ⟨g1, 0, none⟩ = some (.string (rangeT a b)) ∧ w'.cell? ⟨g1, 1, none⟩ = some (.string (decT k)) ∧ w'.cell? ⟨g2, 0, none⟩ = some (.string (decT a)) ∧ w'.cell? ⟨g2, 1, none⟩ = some (.string (decT b))) (first | (refine ⟨?_, ?_, ?_, ?_, ?_, ?_, ?_⟩ <;> (repeat (first | assumption | (with_reducible refine keepD ?_) | (with_reducible refine keepN ?_) | (with_reducible refine keepV ?_)))) | go_keep)
    (first | ((first | (go_at_call 32) | (go_at_call 34)); refine (intOrName_cr a ha _).mono ?_; rintro e w3 ⟨rfl, hb3⟩; have d0 : w3.cell? ⟨w.heap.size, 0, none⟩ = some (.int .u64 low) := (by refine cellB hb3 ?_; (repeat (first | assumption | (with_reducible refine keepD ?_) | (with_reducible refine keepN ?_) | (with_reducible refine keepV ?_)))); have d1 : w3.cell? ⟨w.heap.size, 1, none⟩ = some (.int .u64 high) := (by refine cellB hb3 ?_; (repeat (first | assumption | (with_reducible refine keepD ?_) | (with_reducible refine keepN ?_) | (with_reducible refine keepV ?_)))); have d2 : w3.cell? ⟨w.heap.size, 2, none⟩ = some (.map none) := (by refine cellB hb3 ?_; (repeat (first | assumption | (with_reducible refine keepD ?_) | (with_reducible refine keepN ?_) | (with_reducible refine keepV ?_)))); have x0 : w3.cell? ⟨g1, 0, none⟩ = some (.string (rangeT a b)) := (by refine cellB hb3 ?_; (repeat (first | assumption | (with_reducible refine keepD ?_) | (with_reducible refine keepN ?_) | (with_reducible refine keepV ?_)))); have x1 : w3.cell? ⟨g1, 1, none⟩ = some (.string (decT k)) := (by refine cellB hb3 ?_; (repeat (first | assumption | (with_reducible refine keepD ?_) | (with_reducible refine keepN ?_) | (with_reducible refine keepV ?_)))); have y0 : w3.cell? ⟨g2, 0, none⟩ = some (.string (decT a)) := (by refine cellB hb3 ?_; (repeat (first | assumption | (with_reducible refine keepD ?_) | (with_reducible refine keepN ?_) | (with_reducible refine keepV ?_)))); have y1 : w3.cell? ⟨g2, 1, none⟩ = some (.string (decT b)) := (by refine cellB hb3 ?_; (repeat (first | assumption | (with_reducible refine keepD ?_) | (with_reducible refine keepN ?_) | (with_reducible refine keepV ?_)))); replace bk : Below w.heap.size w w3 := Below.trans (by repeat (first | (with_reducible assumption) | (with_reducible exact Below.refl _ _) | (with_reducible refine below_drewN ?_ _) | (with_reducible refine Below.drew ?_) | (with_reducible refine Below.alloc ?_ (by first | omega | (simp <;> omega)) _))) (hb3.mono (by have := bk.size; first | omega | (simp <;> omega))); clear hb3))
  go_wp2_with fail
  go_region_held3 (fun w' => w'.cell? ⟨w.heap.size, 0, none⟩ = some (.int .u64 low) ∧ w'.cell? ⟨w.heap.size, 1, none⟩ = some (.int .u64 high) ∧ w'.cell? ⟨w.heap.size, 2, none⟩ = some (.map none) ∧ w'.cell? ⟨g1, 0, none⟩ = some (.string (rangeT a b)) ∧ w'.cell? ⟨g1, 1, none⟩ = some (.string (decT k)) ∧ w'.cell? ⟨g2, 0, none⟩ = some (.string (decT a)) ∧ w'.cell? ⟨g2, 1, none⟩ = some (.string (decT b))) (first | (refine ⟨?_, ?_, ?_, ?_, ?_, ?_, ?_⟩ <;> (repeat (first | assumption | (with_reducible refine keepD ?_) | (with_reducible refine keepN ?_) | (with_reducible refine keepV ?_)))) | go_keep)
    (first | ((first | (go_at_call 32) | (go_at_call 34)); refine (intOrName_cr b hb _).mono ?_; rintro e w4 ⟨rfl, hb4⟩; have d0 : w4.cell? ⟨w.heap.size, 0, none⟩ = some (.int .u64 low) := (by refine cellB hb4 ?_; (repeat (first | assumption | (with_reducible refine keepD ?_) | (with_reducible refine keepN ?_) | (with_reducible refine keepV ?_)))); have d1 : w4.cell? ⟨w.heap.size, 1, none⟩ = some (.int .u64 high) := (by refine cellB hb4 ?_; (repeat (first | assumption | (with_reducible refine keepD ?_) | (with_reducible refine keepN ?_) | (with_reducible refine keepV ?_)))); have d2 : w4.cell? ⟨w.heap.size, 2, none⟩ = some (.map none) := (by refine cellB hb4 ?_; (repeat (first | assumption | (with_reducible refine keepD ?_) | (with_reducible refine keepN ?_) | (with_reducible refine keepV ?_)))); have x0 : w4.cell? ⟨g1, 0, none⟩ = some (.string (rangeT a b)) := (by refine cellB hb4 ?_; (repeat (first | assumption | (with_reducible refine keepD ?_) | (with_reducible refine keepN ?_) | (with_reducible refine keepV ?_)))); have x1 : w4.cell? ⟨g1, 1, none⟩ = some (.string (decT k)) := (by refine cellB hb4 ?_; (repeat (first | assumption | (with_reducible refine keepD ?_) | (with_reducible refine keepN ?_) | (with_reducible refine keepV ?_)))); have y0 : w4.cell? ⟨g2, 0, none⟩ = some (.string (decT a)) := (by refine cellB hb4 ?_; (repeat (first | assumption | (with_reducible refine keepD ?_) | (with_reducible refine keepN ?_) | (with_reducible refine keepV ?_)))); have y1 : w4.cell? ⟨g2, 1, none⟩ = some (.string (decT b)) := (by refine cellB hb4 ?_; (repeat (first | assumption | (with_reducible refine keepD ?_) | (with_reducible refine keepN ?_) | (with_reducible refine keepV ?_)))); replace bk : Below w.heap.size w w4 := Below.trans (by repeat (first | (with_reducible assumption) | (with_reducible exact Below.refl _ _) | (with_reducible refine below_drewN ?_ _) | (with_reducible refine Below.drew ?_) | (with_reducible refine Below.alloc ?_ (by first | omega | (simp <;> omega)) _))) (hb4.mono (by have := bk.size; first | omega | (simp <;> omega))); clear hb4))
  go_wp2_with fail
  refine (mustInt_cr k hk _).mono ?_
  rintro e w5 ⟨rfl, hb5⟩
  have d0 : w5.cell? ⟨w.heap.size, 0, none⟩ = some (.int .u64 low) := cellB hb5 d0
  have d1 : w5.cell? ⟨w.heap.size, 1, none⟩ = some (.int .u64 high) := cellB hb5 d1
  have d2 : w5.cell? ⟨w.heap.size, 2, none⟩ = some (.map none) := cellB hb5 d2
  have x0 : w5.cell? ⟨g1, 0, none⟩ = some (.string (rangeT a b)) := cellB hb5 x0
  have x1 : w5.cell? ⟨g1, 1, none⟩ = some (.string (decT k)) := cellB hb5 x1
  have y0 : w5.cell? ⟨g2, 0, none⟩ = some (.string (decT a)) := cellB hb5 y0
  have y1 : w5.cell? ⟨g2, 1, none⟩ = some (.string (decT b)) := cellB hb5 y1
  replace bk : Below w.heap.size w w5 := bk.trans (hb5.mono bk.size)
  clear hb5
  go_wp2_with fail
  refine (errNew_any _ _).mono ?_
  rintro e w9 ⟨⟨t, p, rfl⟩, rfl⟩
  go_wp2_with fail
  refine bodyPost_ret (v := .tuple #[.int .u64 0, .iface t p]) (by simp [results, Tryd.results23, go_sem]) rfl ⟨⟨t, p, rfl⟩, ?_⟩
  have nk : w.heap.size ≤ w5.heap.size := bk.size
  exact (by repeat (first | (with_reducible assumption) | (with_reducible exact Below.refl _ _) | (with_reducible refine below_drewN ?_ _) | (with_reducible refine Below.drew ?_) | (with_reducible refine Below.alloc ?_ (by first | omega | (simp <;> omega)) _)))

set_option maxRecDepth 100000 in
set_option maxHeartbeats 4000000 in
theorem rs_hione (low high a b k : Nat) (hh : high ≤ 62) (ha : a < 9223372036854775808) (hb : b < 9223372036854775808) (hk : k < 9223372036854775808) (T : ByteArray) (hs9 : T.size ≤ 62) (HC : Hid (cutB 47 T = [rangeT a b, decT k])) (w : World) (h1 : low ≤ a) (h2 : high < b) (h4 : Hid (k = 1)) :
    Calls Tryd.prog 23 #[.string (T), .agg #[.int .u64 low, .int .u64 high, .map none]] w (RangeErr w) := by
  have hsz := rangeT_size a b (by omega) (by omega)
  have hsk := decT_size k (by omega)
  have s1 := decT_star 42 (by omega) a 42 rfl
  have s2 := decT_star 63 (by omega) a 63 rfl
  have i1 : ((a : Int) < (low : Int)) = False := by simp; omega
  have i2 : ((high : Int) < (b : Int)) = True := by simp; exact h2
  have i4 : ((1 : Int) < (k : Int)) = False := by have := h4.out; simp; omega
  have i5 : ((k : Int) == 0) = false := by have := h4.out; simp; omega
  have i6 : ((k : Int) = 0) = False := by have := h4.out; simp; omega
  go_enter Tryd.func23, Tryd.ntmps23
  go_wp2_with fail
  have e0 : (w.alloc (.cells #[.int .u64 low, .int .u64 high, .map none] 49)).heap[w.heap.size]? = some (.cells #[.int .u64 low, .int .u64 high, .map none] 49) := heap_alloc_new w _
  have hw0 : Below w.heap.size w (w.alloc (.cells #[.int .u64 low, .int .u64 high, .map none] 49)) := (by repeat (first | (with_reducible assumption) | (with_reducible exact Below.refl _ _) | (with_reducible refine below_drewN ?_ _) | (with_reducible refine Below.drew ?_) | (with_reducible refine Below.alloc ?_ (by first | omega | (simp <;> omega)) _)))
  refine (splitSv_any (T) 47 (by omega) _).mono ?_
  rintro e w1 ⟨v1, rfl, hown1, hb1⟩
  have d0 : w1.cell? ⟨w.heap.size, 0, none⟩ = some (.int .u64 low) := cellB hb1 (cell_of_row _ _ 0 _ _ (0, 0) e0)
  have d1 : w1.cell? ⟨w.heap.size, 1, none⟩ = some (.int .u64 high) := cellB hb1 (cell_of_row _ _ 1 _ _ (0, 0) e0)
  have d2 : w1.cell? ⟨w.heap.size, 2, none⟩ = some (.map none) := cellB hb1 (cell_of_row _ _ 2 _ _ (0, 0) e0)
  have bk : Below w.heap.size w w1 := hw0.trans (hb1.mono hw0.size)
  clear hb1 hw0 e0
  rw [show ((47 : UInt8).toNat : Int) = 47 from rfl, HC.out] at hown1
  obtain ⟨g1, cap1, rfl, hc1, hm1, hcell1⟩ := own_open hown1 (by simp)
  have x0 : w1.cell? ⟨g1, 0, none⟩ = some (.string (rangeT a b)) := hcell1 0 (by simp)
  have x1 : w1.cell? ⟨g1, 1, none⟩ = some (.string (decT k)) := hcell1 1 (by simp)
  simp only [List.length_cons, List.length_nil, Nat.zero_add, Nat.reduceAdd] at hc1 ⊢
  unfold maxLen at hm1
  clear hown1 hcell1
  go_wp2_with fail
  refine (splitSv_any (rangeT a b) 45 (by omega) _).mono ?_
  rintro e w2 ⟨v2, rfl, hown2, hb2⟩
  have d0 : w2.cell? ⟨w.heap.size, 0, none⟩ = some (.int .u64 low) := cellB hb2 d0
  have d1 : w2.cell? ⟨w.heap.size, 1, none⟩ = some (.int .u64 high) := cellB hb2 d1
  have d2 : w2.cell? ⟨w.heap.size, 2, none⟩ = some (.map none) := cellB hb2 d2
  have x0 : w2.cell? ⟨g1, 0, none⟩ = some (.string (rangeT a b)) := cellB hb2 x0
  have x1 : w2.cell? ⟨g1, 1, none⟩ = some (.string (decT k)) := cellB hb2 x1
  replace bk : Below w.heap.size w w2 := bk.trans (hb2.mono bk.size)
  clear hb2
  rw [show ((45 : UInt8).toNat : Int) = 45 from rfl, cut_range] at hown2
  obtain ⟨g2, cap2, rfl, hc2, hm2, hcell2⟩ := own_open hown2 (by simp)
  have y0 : w2.cell? ⟨g2, 0, none⟩ = some (.string (decT a)) := hcell2 0 (by simp)
  have y1 : w2.cell? ⟨g2, 1, none⟩ = some (.string (decT b)) := hcell2 1 (by simp)
  simp only [List.length_cons, List.length_nil, Nat.zero_add, Nat.reduceAdd] at hc2 ⊢
  unfold maxLen at hm2
  clear hown2 hcell2
  go_wp2_with fail
  go_region_held3 (fun w' => w'.cell? ⟨w.heap.size, 0, none⟩ = some (.int .u64 low) ∧ w'.cell? ⟨w.heap.size, 1, none⟩ = some (.int .u64 high) ∧ w'.cell? ⟨w.heap.size, 2, none⟩ = some (.map none) ∧ w'.cell? ⟨g1, 0, none⟩ = some (.string (rangeT a b)) ∧ w'.cell? ⟨g1, 1, none⟩ = some (.string (decT k)) ∧ w'.cell? ⟨g2, 0, none⟩ = some (.string (decT a)) ∧ w'.cell? ⟨g2, 1, none⟩ = some (.string (decT b))) (first | (refine ⟨?_, ?_, ?_, ?_, ?_, ?_, ?_⟩ <;> (repeat (first | assumption | (with_reducible refine keepD ?_) | (with_reducible refine keepN ?_) | (with_reducible refine keepV ?_)))) | go_keep)
    (first | ((first | (go_at_call 32) | (go_at_call 34)); refine (intOrName_cr a ha _).mono ?_; rintro e w3 ⟨rfl, hb3⟩; have d0 : w3.cell? ⟨w.heap.size, 0, none⟩ = some (.int .u64 low) := (by refine cellB hb3 ?_; (repeat (first | assumption | (with_reducible refine keepD ?_) | (with_reducible refine keepN ?_) | (with_reducible refine keepV ?_)))); have d1 : w3.cell? ⟨w.heap.size, 1, none⟩ = some (.int .u64 high) := (by refine cellB hb3 ?_; (repeat (first | assumption | (with_reducible refine keepD ?_) | (with_reducible refine keepN ?_) | (with_reducible refine keepV ?_)))); have d2 : w3.cell? ⟨w.heap.size, 2, none⟩ = some (.map none) := (by refine cellB hb3 ?_; (repeat (first | assumption | (with_reducible refine keepD ?_) | (with_reducible refine keepN ?_) | (with_reducible refine keepV ?_)))); have x0 : w3.cell? ⟨g1, 0, none⟩ = some (.string (rangeT a b)) := (by refine cellB hb3 ?_; (repeat (first | assumption | (with_reducible refine keepD ?_) | (with_reducible refine keepN ?_) | (with_reducible refine keepV ?_)))); have x1 : w3.cell? ⟨g1, 1, none⟩ = some (.string (decT k)) := (by refine cellB hb3 ?_; (repeat (first | assumption | (with_reducible refine keepD ?_) | (with_reducible refine keepN ?_) | (with_reducible refine keepV ?_)))); have y0 : w3.cell? ⟨g2, 0, none⟩ = some (.string (decT a)) := (by refine cellB hb3 ?_; (repeat (first | assumption | (with_reducible refine keepD ?_) | (with_reducible refine keepN ?_) | (with_reducible refine keepV ?_)))); have y1 : w3.cell? ⟨g2, 1, none⟩ = some (.string (decT b)) := (by refine cellB hb3 ?_; (repeat (first | assumption | (with_reducible refine keepD ?_) | (with_reducible refine keepN ?_) | (with_reducible refine keepV ?_)))); replace bk : Below w.heap.size w w3 := Below.trans (by repeat (first | (with_reducible assumption) | (with_reducible exact Below.refl _ _) | (with_reducible refine below_drewN ?_ _) | (with_reducible refine Below.drew ?_) | (with_reducible refine Below.alloc ?_ (by first | omega | (simp <;> omega)) _))) (hb3.mono (by have := bk.size; first | omega | (simp <;> omega))); clear hb3))
  go_wp2_with fail
  go_region_held3 (fun w' => w'.cell? ⟨w.heap.size, 0, none⟩ = some (.int .u64 low) ∧ w'.cell? ⟨w.heap.size, 1, none⟩ = some (.int .u64 high) ∧ w'.cell? ⟨w.heap.size, 2, none⟩ = some (.map none) ∧ w'.cell? ⟨g1, 0, none⟩ = some (.string (rangeT a b)) ∧ w'.cell? ⟨g1, 1, none⟩ = some (.string (decT k)) ∧ w'.cell? ⟨g2, 0, none⟩ = some (.string (decT a)) ∧ w'.cell? ⟨g2, 1, none⟩ = some (.string (decT b))) (first | (refine ⟨?_, ?_, ?_, ?_, ?_, ?_, ?_⟩ <;> (repeat (first | assumption | (with_reducible refine keepD ?_) | (with_reducible refine keepN ?_) | (with_reducible refine keepV ?_)))) | go_keep)
    (first | ((first | (go_at_call 32) | (go_at_call 34)); refine (intOrName_cr b hb _).mono ?_; rintro e w4 ⟨rfl, hb4⟩; have d0 : w4.cell? ⟨w.heap.size, 0, none⟩ = some (.int .u64 low) := (by refine cellB hb4 ?_; (repeat (first | assumption | (with_reducible refine keepD ?_) | (with_reducible refine keepN ?_) | (with_reducible refine keepV ?_)))); have d1 : w4.cell? ⟨w.heap.size, 1, none⟩ = some (.int .u64 high) := (by refine cellB hb4 ?_; (repeat (first | assumption | (with_reducible refine keepD ?_) | (with_reducible refine keepN ?_) | (with_reducible refine keepV ?_)))); have d2 : w4.cell? ⟨w.heap.size, 2, none⟩ = some (.map none) := (by refine cellB hb4 ?_; (repeat (first | assumption | (with_reducible refine keepD ?_) | (with_reducible refine keepN ?_) | (with_reducible refine keepV ?_)))); have x0 : w4.cell? ⟨g1, 0, none⟩ = some (.string (rangeT a b)) := (by refine cellB hb4 ?_; (repeat (first | assumption | (with_reducible refine keepD ?_) | (with_reducible refine keepN ?_) | (with_reducible refine keepV ?_)))); have x1 : w4.cell? ⟨g1, 1, none⟩ = some (.string (decT k)) := (by refine cellB hb4 ?_; (repeat (first | assumption | (with_reducible refine keepD ?_) | (with_reducible refine keepN ?_) | (with_reducible refine keepV ?_)))); have y0 : w4.cell? ⟨g2, 0, none⟩ = some (.string (decT a)) := (by refine cellB hb4 ?_; (repeat (first | assumption | (with_reducible refine keepD ?_) | (with_reducible refine keepN ?_) | (with_reducible refine keepV ?_)))); have y1 : w4.cell? ⟨g2, 1, none⟩ = some (.string (decT b)) := (by refine cellB hb4 ?_; (repeat (first | assumption | (with_reducible refine keepD ?_) | (with_reducible refine keepN ?_) | (with_reducible refine keepV ?_)))); replace bk : Below w.heap.size w w4 := Below.trans (by repeat (first | (with_reducible assumption) | (with_reducible exact Below.refl _ _) | (with_reducible refine below_drewN ?_ _) | (with_reducible refine Below.drew ?_) | (with_reducible refine Below.alloc ?_ (by first | omega | (simp <;> omega)) _))) (hb4.mono (by have := bk.size; first | omega | (simp <;> omega))); clear hb4))
  go_wp2_with fail
  refine (mustInt_cr k hk _).mono ?_
  rintro e w5 ⟨rfl, hb5⟩
  have d0 : w5.cell? ⟨w.heap.size, 0, none⟩ = some (.int .u64 low) := cellB hb5 d0
  have d1 : w5.cell? ⟨w.heap.size, 1, none⟩ = some (.int .u64 high) := cellB hb5 d1
  have d2 : w5.cell? ⟨w.heap.size, 2, none⟩ = some (.map none) := cellB hb5 d2
  have x0 : w5.cell? ⟨g1, 0, none⟩ = some (.string (rangeT a b)) := cellB hb5 x0
  have x1 : w5.cell? ⟨g1, 1, none⟩ = some (.string (decT k)) := cellB hb5 x1
  have y0 : w5.cell? ⟨g2, 0, none⟩ = some (.string (decT a)) := cellB hb5 y0
  have y1 : w5.cell? ⟨g2, 1, none⟩ = some (.string (decT b)) := cellB hb5 y1
  replace bk : Below w.heap.size w w5 := bk.trans (hb5.mono bk.size)
  clear hb5
  go_wp2_with fail
  refine (errNew_any _ _).mono ?_
  rintro e w9 ⟨⟨t, p, rfl⟩, rfl⟩
  go_wp2_with fail
  refine bodyPost_ret (v := .tuple #[.int .u64 0, .iface t p]) (by simp [results, Tryd.results23, go_sem]) rfl ⟨⟨t, p, rfl⟩, ?_⟩
  have nk : w.heap.size ≤ w5.heap.size := bk.size
  exact (by repeat (first | (with_reducible assumption) | (with_reducible exact Below.refl _ _) | (with_reducible refine below_drewN ?_ _) | (with_reducible refine Below.drew ?_) | (with_reducible refine Below.alloc ?_ (by first | omega | (simp <;> omega)) _)))

set_option maxRecDepth 100000 in
set_option maxHeartbeats 4000000 in
theorem rs_hinul (low high a b k : Nat) (hh : high ≤ 62) (ha : a < 9223372036854775808) (hb : b < 9223372036854775808) (hk : k < 9223372036854775808) (T : ByteArray) (hs9 : T.size ≤ 62) (HC : Hid (cutB 47 T = [rangeT a b, decT k])) (w : World) (h1 : low ≤ a) (h2 : high < b) (h4 : Hid (k = 0)) :
    Calls Tryd.prog 23 #[.string (T), .agg #[.int .u64 low, .int .u64 high, .map none]] w (RangeErr w) := by
  have hsz := rangeT_size a b (by omega) (by omega)
  have hsk := decT_size k (by omega)
  have s1 := decT_star 42 (by omega) a 42 rfl
  have s2 := decT_star 63 (by omega) a 63 rfl
  have i1 : ((a : Int) < (low : Int)) = False := by simp; omega
  have i2 : ((high : Int) < (b : Int)) = True := by simp; exact h2
  have i4 : ((1 : Int) < (k : Int)) = False := by have := h4.out; simp; omega
  have i5 : ((k : Int) == 0) = true := by have := h4.out; simp; omega
  have i6 : ((k : Int) = 0) = True := by have := h4.out; simp; omega
  go_enter Tryd.func23, Tryd.ntmps23
  go_wp2_with fail
  have e0 : (w.alloc (.cells #[.int .u64 low, .int .u64 high, .map none] 49)).heap[w.heap.size]? = some (.cells #[.int .u64 low, .int .u64 high, .map none] 49) := heap_alloc_new w _
  have hw0 : Below w.heap.size w (w.alloc (.cells #[.int .u64 low, .int .u64 high, .map none] 49)) := (by repeat (first | (with_reducible assumption) | (with_reducible exact Below.refl _ _) | (with_reducible refine below_drewN ?_ _) | (with_reducible refine Below.drew ?_) | (with_reducible refine Below.alloc ?_ (by first | omega | (simp <;> omega)) _)))
  refine (splitSv_any (T) 47 (by omega) _).mono ?_
  rintro e w1 ⟨v1, rfl, hown1, hb1⟩
  have d0 : w1.cell? ⟨w.heap.size, 0, none⟩ = some (.int .u64 low) := cellB hb1 (cell_of_row _ _ 0 _ _ (0, 0) e0)
  have d1 : w1.cell? ⟨w.heap.size, 1, none⟩ = some (.int .u64 high) := cellB hb1 (cell_of_row _ _ 1 _ _ (0, 0) e0)
  have d2 : w1.cell? ⟨w.heap.size, 2, none⟩ = some (.map none) := cellB hb1 (cell_of_row _ _ 2 _ _ (0, 0) e0)
  have bk : Below w.heap.size w w1 := hw0.trans (hb1.mono hw0.size)
  clear hb1 hw0 e0
  rw [show ((47 : UInt8).toNat : Int) = 47 from rfl, HC.out] at hown1
  obtain ⟨g1, cap1, rfl, hc1, hm1, hcell1⟩ := own_open hown1 (by simp)
  have x0 : w1.cell? ⟨g1, 0, none⟩ = some (.string (rangeT a b)) := hcell1 0 (by simp)
  have x1 : w1.cell? ⟨g1, 1, none⟩ = some (.string (decT k)) := hcell1 1 (by simp)
  simp only [List.length_cons, List.length_nil, Nat.zero_add, Nat.reduceAdd] at hc1 ⊢
  unfold maxLen at hm1
  clear hown1 hcell1
  go_wp2_with fail
  refine (splitSv_any (rangeT a b) 45 (by omega) _).mono ?_
  rintro e w2 ⟨v2, rfl, hown2, hb2⟩
  have d0 : w2.cell? ⟨w.heap.size, 0, none⟩ = some (.int .u64 low) := cellB hb2 d0
  have d1 : w2.cell? ⟨w.heap.size, 1, none⟩ = some (.int .u64 high) := cellB hb2 d1
  have d2 : w2.cell? ⟨w.heap.size, 2, none⟩ = some (.map none) := cellB hb2 d2
  have x0 : w2.cell? ⟨g1, 0, none⟩ = some (.string (rangeT a b)) := cellB hb2 x0
  have x1 : w2.cell? ⟨g1, 1, none⟩ = some (.string (decT k)) := cellB hb2 x1
  replace bk : Below w.heap.size w w2 := bk.trans (hb2.mono bk.size)
  clear hb2
  rw [show ((45 : UInt8).toNat : Int) = 45 from rfl, cut_range] at hown2
  obtain ⟨g2, cap2, rfl, hc2, hm2, hcell2⟩ := own_open hown2 (by simp)
  have y0 : w2.cell? ⟨g2, 0, none⟩ = some (.string (decT a)) := hcell2 0 (by simp)
  have y1 : w2.cell? ⟨g2, 1, none⟩ = some (.string (decT b)) := hcell2 1 (by simp)
  simp only [List.length_cons, List.length_nil, Nat.zero_add, Nat.reduceAdd] at hc2 ⊢
  unfold maxLen at hm2
  clear hown2 hcell2
  go_wp2_with fail
  go_region_held3 (fun w' => w'.cell? ⟨w.heap.size, 0, none⟩ = some (.int .u64 low) ∧ w'.cell? ⟨w.heap.size, 1, none⟩ = some (.int .u64 high) ∧ w'.cell? ⟨w.heap.size, 2, none⟩ = some (.map none) ∧ w'.cell? ⟨g1, 0, none⟩ = some (.string (rangeT a b)) ∧ w'.cell? ⟨g1, 1, none⟩ = some (.string (decT k)) ∧ w'.cell? ⟨g2, 0, none⟩ = some (.string (decT a)) ∧ w'.cell? ⟨g2, 1, none⟩ = some (.string (decT b))) (first | (refine ⟨?_, ?_, ?_, ?_, ?_, ?_, ?_⟩ <;> (repeat (first | assumption | (with_reducible refine keepD ?_) | (with_reducible refine keepN ?_) | (with_reducible refine keepV ?_)))) | go_keep)
    (first | ((first | (go_at_call 32) | (go_at_call 34)); refine (intOrName_cr a ha _).mono ?_; rintro e w3 ⟨rfl, hb3⟩; have d0 : w3.cell? ⟨w.heap.size, 0, none⟩ = some (.int .u64 low) := (by refine cellB hb3 ?_; (repeat (first | assumption | (with_reducible refine keepD ?_) | (with_reducible refine keepN ?_) | (with_reducible refine keepV ?_)))); have d1 : w3.cell? ⟨w.heap.size, 1, none⟩ = some (.int .u64 high) := (by refine cellB hb3 ?_; (repeat (first | assumption | (with_reducible refine keepD ?_) | (with_reducible refine keepN ?_) | (with_reducible refine keepV ?_)))); have d2 : w3.cell? ⟨w.heap.size, 2, none⟩ = some (.map none) := (by refine cellB hb3 ?_; (repeat (first | assumption | (with_reducible refine keepD ?_) | (with_reducible refine keepN ?_) | (with_reducible refine keepV ?_)))); have x0 : w3.cell? ⟨g1, 0, none⟩ = some (.string (rangeT a b)) := (by refine cellB hb3 ?_; (repeat (first | assumption | (with_reducible refine keepD ?_) | (with_reducible refine keepN ?_) | (with_reducible refine keepV ?_)))); have x1 : w3.cell? ⟨g1, 1, none⟩ = some (.string (decT k)) := (by refine cellB hb3 ?_; (repeat (first | assumption | (with_reducible refine keepD ?_) | (with_reducible refine keepN ?_) | (with_reducible refine keepV ?_)))); have y0 : w3.cell? ⟨g2, 0, none⟩ = some (.string (decT a)) := (by refine cellB hb3 ?_; (repeat (first | assumption | (with_reducible refine keepD ?_) | (with_reducible refine keepN ?_) | (with_reducible refine keepV ?_)))); have y1 : w3.cell? ⟨g2, 1, none⟩ = some (.string (decT b)) := (by refine cellB hb3 ?_; (repeat (first | assumption | (with_reducible refine keepD ?_) | (with_reducible refine keepN ?_) | (with_reducible refine keepV ?_)))); replace bk : Below w.heap.size w w3 := Below.trans (by repeat (first | (with_reducible assumption) | (with_reducible exact Below.refl _ _) | (with_reducible refine below_drewN ?_ _) | (with_reducible refine Below.drew ?_) | (with_reducible refine Below.alloc ?_ (by first | omega | (simp <;> omega)) _))) (hb3.mono (by have := bk.size; first | omega | (simp <;> omega))); clear hb3))
  go_wp2_with fail
  go_region_held3 (fun w' => w'.cell? ⟨w.heap.size, 0, none⟩ = some (.int .u64 low) ∧ w'.cell? ⟨w.heap.size, 1, none⟩ = some (.int .u64 high) ∧ w'.cell? ⟨w.heap.size, 2, none⟩ = some (.map none) ∧ w'.cell? ⟨g1, 0, none⟩ = some (.string (rangeT a b)) ∧ w'.cell? ⟨g1, 1, none⟩ = some (.string (decT k)) ∧ w'.cell? ⟨g2, 0, none⟩ = some (.string (decT a)) ∧ w'.cell? ⟨g2, 1, none⟩ = some (.string (decT b))) (first | (refine ⟨?_, ?_, ?_, ?_, ?_, ?_, ?_⟩ <;> (repeat (first | assumption | (with_reducible refine keepD ?_) | (with_reducible refine keepN ?_) | (with_reducible refine keepV ?_)))) | go_keep)
    (first | ((first | (go_at_call 32) | (go_at_call 34)); refine (intOrName_cr b hb _).mono ?_; rintro e w4 ⟨rfl, hb4⟩; have d0 : w4.cell? ⟨w.heap.size, 0, none⟩ = some (.int .u64 low) := (by refine cellB hb4 ?_; (repeat (first | assumption | (with_reducible refine keepD ?_) | (with_reducible refine keepN ?_) | (with_reducible refine keepV ?_)))); have d1 : w4.cell? ⟨w.heap.size, 1, none⟩ = some (.int .u64 high) := (by refine cellB hb4 ?_; (repeat (first | assumption | (with_reducible refine keepD ?_) | (with_reducible refine keepN ?_) | (with_reducible refine keepV ?_)))); have d2 : w4.cell? ⟨w.heap.size, 2, none⟩ = some (.map none) := (by refine cellB hb4 ?_; (repeat (first | assumption | (with_reducible refine keepD ?_) | (with_reducible refine keepN ?_) | (with_reducible refine keepV ?_)))); have x0 : w4.cell? ⟨g1, 0, none⟩ = some (.string (rangeT a b)) := (by refine cellB hb4 ?_; (repeat (first | assumption | (with_reducible refine keepD ?_) | (with_reducible refine keepN ?_) | (with_reducible refine keepV ?_)))); have x1 : w4.cell? ⟨g1, 1, none⟩ = some (.string (decT k)) := (by refine cellB hb4 ?_; (repeat (first | assumption | (with_reducible refine keepD ?_) | (with_reducible refine keepN ?_) | (with_reducible refine keepV ?_)))); have y0 : w4.cell? ⟨g2, 0, none⟩ = some (.string (decT a)) := (by refine cellB hb4 ?_; (repeat (first | assumption | (with_reducible refine keepD ?_) | (with_reducible refine keepN ?_) | (with_reducible refine keepV ?_)))); have y1 : w4.cell? ⟨g2, 1, none⟩ = some (.string (decT b)) := (by refine cellB hb4 ?_; (repeat (first | assumption | (with_reducible refine keepD ?_) | (with_reducible refine keepN ?_) | (with_reducible refine keepV ?_)))); replace bk : Below w.heap.size w w4 := Below.trans (by repeat (first | (with_reducible assumption) | (with_reducible exact Below.refl _ _) | (with_reducible refine below_drewN ?_ _) | (with_reducible refine Below.drew ?_) | (with_reducible refine Below.alloc ?_ (by first | omega | (simp <;> omega)) _))) (hb4.mono (by have := bk.size; first | omega | (simp <;> omega))); clear hb4))
  go_wp2_with fail
  refine (mustInt_cr k hk _).mono ?_
  rintro e w5 ⟨rfl, hb5⟩
  have d0 : w5.cell? ⟨w.heap.size, 0, none⟩ = some (.int .u64 low) := cellB hb5 d0
  have d1 : w5.cell? ⟨w.heap.size, 1, none⟩ = some (.int .u64 high) := cellB hb5 d1
  have d2 : w5.cell? ⟨w.heap.size, 2, none⟩ = some (.map none) := cellB hb5 d2
  have x0 : w5.cell? ⟨g1, 0, none⟩ = some (.string (rangeT a b)) := cellB hb5 x0
  have x1 : w5.cell? ⟨g1, 1, none⟩ = some (.string (decT k)) := cellB hb5 x1
  have y0 : w5.cell? ⟨g2, 0, none⟩ = some (.string (decT a)) := cellB hb5 y0
  have y1 : w5.cell? ⟨g2, 1, none⟩ = some (.string (decT b)) := cellB hb5 y1
  replace bk : Below w.heap.size w w5 := bk.trans (hb5.mono bk.size)
  clear hb5
  go_wp2_with fail
  refine (errNew_any _ _).mono ?_
  rintro e w9 ⟨⟨t, p, rfl⟩, rfl⟩
  go_wp2_with fail
  refine bodyPost_ret (v := .tuple #[.int .u64 0, .iface t p]) (by simp [results, Tryd.results23, go_sem]) rfl ⟨⟨t, p, rfl⟩, ?_⟩
  have nk : w.heap.size ≤ w5.heap.size := bk.size
  exact (by repeat (first | (with_reducible assumption) | (with_reducible exact Below.refl _ _) | (with_reducible refine below_drewN ?_ _) | (with_reducible refine Below.drew ?_) | (with_reducible refine Below.alloc ?_ (by first | omega | (simp <;> omega)) _)))

end Go.Proofs.YtcbcmbkioibliaaDoor
