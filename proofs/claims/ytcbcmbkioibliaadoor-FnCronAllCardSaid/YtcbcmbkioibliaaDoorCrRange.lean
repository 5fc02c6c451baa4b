/- cron.getRange at "a-b" and "a-b/k". -/
import Derived.Test.YtcbcmbkioibliaaDoorCrNum
import Derived.Deep.RegionHeld3
import Derived.BigQuiet
namespace Go.Proofs.YtcbcmbkioibliaaDoor
open Go.RowKit Go.Shelf
set_option linter.unusedVariables false
set_option linter.unusedSimpArgs false

theorem keepD {X : World} {a : Addr} {u : Value} (h : X.cell? a = some u) : X.drew.cell? a = some u := h
theorem keepN {X : World} {n : Nat} {a : Addr} {u : Value} (h : X.cell? a = some u) : (X.drewN n).cell? a = some u := h
theorem keepV {X : World} {o : Obj} {a : Addr} {u : Value} (h : X.cell? a = some u) : (X.alloc o).cell? a = some u := (World.cell?_alloc_some X a o (by rw [h]; rfl)).trans h
def noStr : ByteArray := ⟨#[]⟩
theorem own_below {w w' : World} {base : Nat} {e : TypeId} {size : Nat} {v : Value} {n : Nat} {xs : List Value} (h : w.ownsRow base e size v n xs) (hb : Below w.heap.size w w') : w'.ownsRow base e size v n xs :=
  h.kept (row := none) ⟨hb.os, hb.tape, hb.output, hb.size, fun i hi _ => hb.block i hi⟩ (by cases v.ownBlock <;> simp)
theorem cellLt {w : World} {a : Addr} {v : Value} (h : w.cell? a = some v) : a.block < w.heap.size := by
  rcases Nat.lt_or_ge a.block w.heap.size with h1 | h1
  · exact h1
  · have : w.heap[a.block]? = none := Array.getElem?_eq_none h1
    simp [World.cell?, this] at h
theorem cellB {X Y : World} {a : Addr} {v : Value} (hb : Below X.heap.size X Y) (h : X.cell? a = some v) : Y.cell? a = some v := (hb.cell (cellLt h)).trans h

/-- A slice of the call's own with texts, opened: where it lies, and each cell. -/
theorem own_open {w : World} {base : Nat} {e : TypeId} {v : Value} {l : List ByteArray} (h : w.ownsRow base e 1 v l.length (strsV l)) (hl : l ≠ []) :
    ∃ g cap, v = .slice (some ⟨g, 0, none⟩) l.length cap ∧ l.length ≤ cap ∧ cap ≤ maxLen ∧ ∀ i, i < l.length → w.cell? ⟨g, i, none⟩ = some (.string (l.getD i noStr)) := by
  have h0 := h
  obtain ⟨_, h⟩ := h
  rcases h with ⟨_, h1⟩ | ⟨g, cap, cur, rfl, _, _, hc, hm, _, _⟩
  · exact absurd (List.eq_nil_of_length_eq_zero h1) hl
  · refine ⟨g, cap, rfl, hc, hm, fun i hi => ?_⟩
    rw [h0.cellAt i (by omega)]
    simp [strsV, List.getD, List.getElem?_eq_getElem hi]

theorem or_zero (v : Nat) (h : v < 18446744073709551616) : bits .or .u64 (v : Int) 0 = (v : Int) := by
  have := u64_or_nat v 0 h (by decide)
  simpa using this
def RangeOk (v : Nat) (w : World) (e : Ending) (w' : World) : Prop := e = .returned (.tuple #[.int .u64 v, .nilIface]) ∧ Below w.heap.size w w'
def RangeErr (w : World) (e : Ending) (w' : World) : Prop := (∃ t p, e = .returned (.tuple #[.int .u64 0, .iface t p])) ∧ Below w.heap.size w w'

set_option maxRecDepth 100000 in
set_option maxHeartbeats 4000000 in
theorem rp_lo (low high a b : Nat) (hh : high ≤ 62) (ha : a < 9223372036854775808) (hb : b < 9223372036854775808) (w : World) (h1 : a < low) :
    Calls Tryd.prog 23 #[.string (rangeT a b), .agg #[.int .u64 low, .int .u64 high, .map none]] w (RangeErr w) := by
  have hsz := rangeT_size a b (by omega) (by omega)
  have s1 := decT_star 42 (by omega) a 42 rfl
  have s2 := decT_star 63 (by omega) a 63 rfl
  have i1 : ((a : Int) < (low : Int)) = True := by simp; exact h1
  go_enter Tryd.func23, Tryd.ntmps23
  go_wp2_with fail
  have e0 : (w.alloc (.cells #[.int .u64 low, .int .u64 high, .map none] 49)).heap[w.heap.size]? = some (.cells #[.int .u64 low, .int .u64 high, .map none] 49) := heap_alloc_new w _
  have hw0 : Below w.heap.size w (w.alloc (.cells #[.int .u64 low, .int .u64 high, .map none] 49)) := (by repeat (first | (with_reducible assumption) | (with_reducible exact Below.refl _ _) | (with_reducible refine below_drewN ?_ _) | (with_reducible refine Below.drew ?_) | (with_reducible refine Below.alloc ?_ (by first | omega | (simp <;> omega)) _)))
  refine (splitSv_any (rangeT a b) 47 (by omega) _).mono ?_
  rintro e w1 ⟨v1, rfl, hown1, hb1⟩
  have d0 : w1.cell? ⟨w.heap.size, 0, none⟩ = some (.int .u64 low) := cellB hb1 (cell_of_row _ _ 0 _ _ (0, 0) e0)
  have d1 : w1.cell? ⟨w.heap.size, 1, none⟩ = some (.int .u64 high) := cellB hb1 (cell_of_row _ _ 1 _ _ (0, 0) e0)
  have d2 : w1.cell? ⟨w.heap.size, 2, none⟩ = some (.map none) := cellB hb1 (cell_of_row _ _ 2 _ _ (0, 0) e0)
  have bk : Below w.heap.size w w1 := hw0.trans (hb1.mono hw0.size)
  clear hb1 hw0 e0
  rw [show ((47 : UInt8).toNat : Int) = 47 from rfl, cut_plain] at hown1
  obtain ⟨g1, cap1, rfl, hc1, hm1, hcell1⟩ := own_open hown1 (by simp)
  have x0 : w1.cell? ⟨g1, 0, none⟩ = some (.string (rangeT a b)) := hcell1 0 (by simp)
  simp only [List.length_cons, List.length_nil, Nat.zero_add, Nat.reduceAdd] at hc1 ⊢
  unfold maxLen at hm1
  clear hown1 hcell1
  go_wp2_with fail
  refine (splitSv_any (rangeT a b) 45 (by omega) _).mono ?_
  rintro e w2 ⟨v2, rfl, hown2, hb2⟩
  have d0 : w2.cell? ⟨w.heap.size, 0, none⟩ = some (.int .u64 low) := cellB hb2 d0
  have d1 : w2.cell? ⟨w.heap.size, 1, none⟩ = some (.int .u64 high) := cellB hb2 d1
  have d2 : w2.cell? ⟨w.heap.size, 2, none⟩ = some (.map none) := cellB hb2 d2
  have x0 : w2.cell? ⟨g1, 0, none⟩ = some (.string (rangeT a b)) := cellB hb2 x0
  replace bk : Below w.heap.size w w2 := bk.trans (hb2.mono bk.size)
  clear hb2
  rw [show ((45 : UInt8).toNat : Int) = 45 from rfl, cut_range] at hown2
  obtain ⟨g2, cap2, rfl, hc2, hm2, hcell2⟩ := own_open hown2 (by simp)
  have y0 : w2.cell? ⟨g2, 0, none⟩ = some (.string (decT a)) := hcell2 0 (by simp)
  have y1 : w2.cell? ⟨g2, 1, none⟩ = some (.string (decT b)) := hcell2 1 (by simp)
  simp only [List.length_cons, List.length_nil, Nat.zero_add, Nat.reduceAdd] at hc2 ⊢
  unfold maxLen at hm2
  clear hown2 hcell2
  go_wp2_with fail
  go_region_held3 (fun w' => w'.cell? ⟨w.heap.size, 0, none⟩ = some (.int .u64 low) ∧ w'.cell? ⟨w.heap.size, 1, none⟩ = some (.int .u64 high) ∧ w'.cell? ⟨w.heap.size, 2, none⟩ = some (.map none) ∧ w'.cell? ⟨g1, 0, none⟩ = some (.string (rangeT a b)) ∧ w'.cell? ⟨g2, 0, none⟩ = some (.string (decT a)) ∧ w'.cell? ⟨g2, 1, none⟩ = some (.string (decT b))) (first | (refine ⟨?_, ?_, ?_, ?_, ?_, ?_⟩ <;> (repeat (first | assumption | (with_reducible refine keepD ?_) | (with_reducible refine keepN ?_) | (with_reducible refine keepV ?_)))) | go_keep)
    (first | ((first | (go_at_call 32) | (go_at_call 34)); refine (intOrName_cr a ha _).mono ?_; rintro e w3 ⟨rfl, hb3⟩; have d0 : w3.cell? ⟨w.heap.size, 0, none⟩ = some (.int .u64 low) := (by refine cellB hb3 ?_; (repeat (first | assumption | (with_reducible refine keepD ?_) | (with_reducible refine keepN ?_) | (with_reducible refine keepV ?_)))); have d1 : w3.cell? ⟨w.heap.size, 1, none⟩ = some (.int .u64 high) := (by refine cellB hb3 ?_; (repeat (first | assumption | (with_reducible refine keepD ?_) | (with_reducible refine keepN ?_) | (with_reducible refine keepV ?_)))); have d2 : w3.cell? ⟨w.heap.size, 2, none⟩ = some (.map none) := (by refine cellB hb3 ?_; (repeat (first | assumption | (with_reducible refine keepD ?_) | (with_reducible refine keepN ?_) | (with_reducible refine keepV ?_)))); have x0 : w3.cell? ⟨g1, 0, none⟩ = some (.string (rangeT a b)) := (by refine cellB hb3 ?_; (repeat (first | assumption | (with_reducible refine keepD ?_) | (with_reducible refine keepN ?_) | (with_reducible refine keepV ?_)))); have y0 : w3.cell? ⟨g2, 0, none⟩ = some (.string (decT a)) := (by refine cellB hb3 ?_; (repeat (first | assumption | (with_reducible refine keepD ?_) | (with_reducible refine keepN ?_) | (with_reducible refine keepV ?_)))); have y1 : w3.cell? ⟨g2, 1, none⟩ = some (.string (decT b)) := (by refine cellB hb3 ?_; (repeat (first | assumption | (with_reducible refine keepD ?_) | (with_reducible refine keepN ?_) | (with_reducible refine keepV ?_)))); replace bk : Below w.heap.size w w3 := Below.trans (by repeat (first | (with_reducible assumption) | (with_reducible exact Below.refl _ _) | (with_reducible refine below_drewN ?_ _) | (with_reducible refine Below.drew ?_) | (with_reducible refine Below.alloc ?_ (by first | omega | (simp <;> omega)) _))) (hb3.mono (by have := bk.size; first | omega | (simp <;> omega))); clear hb3))
  go_wp2_with fail
  go_region_held3 (fun w' => w'.cell? ⟨w.heap.size, 0, none⟩ = some (.int .u64 low) ∧ w'.cell? ⟨w.heap.size, 1, none⟩ = some (.int .u64 high) ∧ w'.cell? ⟨w.heap.size, 2, none⟩ = some (.map none) ∧ w'.cell? ⟨g1, 0, none⟩ = some (.string (rangeT a b)) ∧ w'.cell? ⟨g2, 0, none⟩ = some (.string (decT a)) ∧ w'.cell? ⟨g2, 1, none⟩ = some (.string (decT b))) (first | (refine ⟨?_, ?_, ?_, ?_, ?_, ?_⟩ <;> (repeat (first | assumption | (with_reducible refine keepD ?_) | (with_reducible refine keepN ?_) | (with_reducible refine keepV ?_)))) | go_keep)
    (first | ((first | (go_at_call 32) | (go_at_call 34)); refine (intOrName_cr b hb _).mono ?_; rintro e w4 ⟨rfl, hb4⟩; have d0 : w4.cell? ⟨w.heap.size, 0, none⟩ = some (.int .u64 low) := (by refine cellB hb4 ?_; (repeat (first | assumption | (with_reducible refine keepD ?_) | (with_reducible refine keepN ?_) | (with_reducible refine keepV ?_)))); have d1 : w4.cell? ⟨w.heap.size, 1, none⟩ = some (.int .u64 high) := (by refine cellB hb4 ?_; (repeat (first | assumption | (with_reducible refine keepD ?_) | (with_reducible refine keepN ?_) | (with_reducible refine keepV ?_)))); have d2 : w4.cell? ⟨w.heap.size, 2, none⟩ = some (.map none) := (by refine cellB hb4 ?_; (repeat (first | assumption | (with_reducible refine keepD ?_) | (with_reducible refine keepN ?_) | (with_reducible refine keepV ?_)))); have x0 : w4.cell? ⟨g1, 0, none⟩ = some (.string (rangeT a b)) := (by refine cellB hb4 ?_; (repeat (first | assumption | (with_reducible refine keepD ?_) | (with_reducible refine keepN ?_) | (with_reducible refine keepV ?_)))); have y0 : w4.cell? ⟨g2, 0, none⟩ = some (.string (decT a)) := (by refine cellB hb4 ?_; (repeat (first | assumption | (with_reducible refine keepD ?_) | (with_reducible refine keepN ?_) | (with_reducible refine keepV ?_)))); have y1 : w4.cell? ⟨g2, 1, none⟩ = some (.string (decT b)) := (by refine cellB hb4 ?_; (repeat (first | assumption | (with_reducible refine keepD ?_) | (with_reducible refine keepN ?_) | (with_reducible refine keepV ?_)))); replace bk : Below w.heap.size w w4 := Below.trans (by repeat (first | (with_reducible assumption) | (with_reducible exact Below.refl _ _) | (with_reducible refine below_drewN ?_ _) | (with_reducible refine Below.drew ?_) | (with_reducible refine Below.alloc ?_ (by first | omega | (simp <;> omega)) _))) (hb4.mono (by have := bk.size; first | omega | (simp <;> omega))); clear hb4))
  go_wp2_with fail
  refine (errNew_any _ _).mono ?_
  rintro e w9 ⟨⟨t, p, rfl⟩, rfl⟩
  go_wp2_with fail
  refine bodyPost_ret (v := .tuple #[.int .u64 0, .iface t p]) (by simp [results, Tryd.results23, go_sem]) rfl ⟨⟨t, p, rfl⟩, ?_⟩
  have nk : w.heap.size ≤ w4.heap.size := bk.size
  exact (by repeat (first | (with_reducible assumption) | (with_reducible exact Below.refl _ _) | (with_reducible refine below_drewN ?_ _) | (with_reducible refine Below.drew ?_) | (with_reducible refine Below.alloc ?_ (by first | omega | (simp <;> omega)) _)))

set_option maxRecDepth 100000 in
set_option maxHeartbeats 4000000 in
theorem rp_hi (low high a b : Nat) (hh : high ≤ 62) (ha : a < 9223372036854775808) (hb : b < 9223372036854775808) (w : World) (h1 : low ≤ a) (h2 : high < b) :
    Calls Tryd.prog 23 #[.string (rangeT a b), .agg #[.int .u64 low, .int .u64 high, .map none]] w (RangeErr w) := by
  have hsz := rangeT_size a b (by omega) (by omega)
  have s1 := decT_star 42 (by omega) a 42 rfl
  have s2 := decT_star 63 (by omega) a 63 rfl
  have i1 : ((a : Int) < (low : Int)) = False := by simp; omega
  have i2 : ((high : Int) < (b : Int)) = True := by simp; exact h2
  go_enter Tryd.func23, Tryd.ntmps23
  go_wp2_with fail
  have e0 : (w.alloc (.cells #[.int .u64 low, .int .u64 high, .map none] 49)).heap[w.heap.size]? = some (.cells #[.int .u64 low, .int .u64 high, .map none] 49) := heap_alloc_new w _
  have hw0 : Below w.heap.size w (w.alloc (.cells #[.int .u64 low, .int .u64 high, .map none] 49)) := (by repeat (first | (with_reducible assumption) | (with_reducible exact Below.refl _ _) | (with_reducible refine below_drewN ?_ _) | (with_reducible refine Below.drew ?_) | (with_reducible refine Below.alloc ?_ (by first | omega | (simp <;> omega)) _)))
  refine (splitSv_any (rangeT a b) 47 (by omega) _).mono ?_
  rintro e w1 ⟨v1, rfl, hown1, hb1⟩
  have d0 : w1.cell? ⟨w.heap.size, 0, none⟩ = some (.int .u64 low) := cellB hb1 (cell_of_row _ _ 0 _ _ (0, 0) e0)
  have d1 : w1.cell? ⟨w.heap.size, 1, none⟩ = some (.int .u64 high) := cellB hb1 (cell_of_row _ _ 1 _ _ (0, 0) e0)
  have d2 : w1.cell? ⟨w.heap.size, 2, none⟩ = some (.map none) := cellB hb1 (cell_of_row _ _ 2 _ _ (0, 0) e0)
  have bk : Below w.heap.size w w1 := hw0.trans (hb1.mono hw0.size)
  clear hb1 hw0 e0
  rw [show ((47 : UInt8).toNat : Int) = 47 from rfl, cut_plain] at hown1
  obtain ⟨g1, cap1, rfl, hc1, hm1, hcell1⟩ := own_open hown1 (by simp)
  have x0 : w1.cell? ⟨g1, 0, none⟩ = some (.string (rangeT a b)) := hcell1 0 (by simp)
  simp only [List.length_cons, List.length_nil, Nat.zero_add, Nat.reduceAdd] at hc1 ⊢
  unfold maxLen at hm1
  clear hown1 hcell1
  go_wp2_with fail
  refine (splitSv_any (rangeT a b) 45 (by omega) _).mono ?_
  rintro e w2 ⟨v2, rfl, hown2, hb2⟩
  have d0 : w2.cell? ⟨w.heap.size, 0, none⟩ = some (.int .u64 low) := cellB hb2 d0
  have d1 : w2.cell? ⟨w.heap.size, 1, none⟩ = some (.int .u64 high) := cellB hb2 d1
  have d2 : w2.cell? ⟨w.heap.size, 2, none⟩ = some (.map none) := cellB hb2 d2
  have x0 : w2.cell? ⟨g1, 0, none⟩ = some (.string (rangeT a b)) := cellB hb2 x0
  replace bk : Below w.heap.size w w2 := bk.trans (hb2.mono bk.size)
  clear hb2
  rw [show ((45 : UInt8).toNat : Int) = 45 from rfl, cut_range] at hown2
  obtain ⟨g2, cap2, rfl, hc2, hm2, hcell2⟩ := own_open hown2 (by simp)
  have y0 : w2.cell? ⟨g2, 0, none⟩ = some (.string (decT a)) := hcell2 0 (by simp)
  have y1 : w2.cell? ⟨g2, 1, none⟩ = some (.string (decT b)) := hcell2 1 (by simp)
  simp only [List.length_cons, List.length_nil, Nat.zero_add, Nat.reduceAdd] at hc2 ⊢
  unfold maxLen at hm2
  clear hown2 hcell2
  go_wp2_with fail
  go_region_held3 (fun w' => w'.cell? ⟨w.heap.size, 0, none⟩ = some (.int .u64 low) ∧ w'.cell? ⟨w.heap.size, 1, none⟩ = some (.int .u64 high) ∧ w'.cell? ⟨w.heap.size, 2, none⟩ = some (.map none) ∧ w'.cell? ⟨g1, 0, none⟩ = some (.string (rangeT a b)) ∧ w'.cell? ⟨g2, 0, none⟩ = some (.string (decT a)) ∧ w'.cell? ⟨g2, 1, none⟩ = some (.string (decT b))) (first | (refine ⟨?_, ?_, ?_, ?_, ?_, ?_⟩ <;> (repeat (first | assumption | (with_reducible refine keepD ?_) | (with_reducible refine keepN ?_) | (with_reducible refine keepV ?_)))) | go_keep)
    (first | ((first | (go_at_call 32) | (go_at_call 34)); refine (intOrName_cr a ha _).mono ?_; rintro e w3 ⟨rfl, hb3⟩; have d0 : w3.cell? ⟨w.heap.size, 0, none⟩ = some (.int .u64 low) := (by refine cellB hb3 ?_; (repeat (first | assumption | (with_reducible refine keepD ?_) | (with_reducible refine keepN ?_) | (with_reducible refine keepV ?_)))); have d1 : w3.cell? ⟨w.heap.size, 1, none⟩ = some (.int .u64 high) := (by refine cellB hb3 ?_; (repeat (first | assumption | (with_reducible refine keepD ?_) | (with_reducible refine keepN ?_) | (with_reducible refine keepV ?_)))); have d2 : w3.cell? ⟨w.heap.size, 2, none⟩ = some (.map none) := (by refine cellB hb3 ?_; (repeat (first | assumption | (with_reducible refine keepD ?_) | (with_reducible refine keepN ?_) | (with_reducible refine keepV ?_)))); have x0 : w3.cell? ⟨g1, 0, none⟩ = some (.string (rangeT a b)) := (by refine cellB hb3 ?_; (repeat (first | assumption | (with_reducible refine keepD ?_) | (with_reducible refine keepN ?_) | (with_reducible refine keepV ?_)))); have y0 : w3.cell? ⟨g2, 0, none⟩ = some (.string (decT a)) := (by refine cellB hb3 ?_; (repeat (first | assumption | (with_reducible refine keepD ?_) | (with_reducible refine keepN ?_) | (with_reducible refine keepV ?_)))); have y1 : w3.cell? ⟨g2, 1, none⟩ = some (.string (decT b)) := (by refine cellB hb3 ?_; (repeat (first | assumption | (with_reducible refine keepD ?_) | (with_reducible refine keepN ?_) | (with_reducible refine keepV ?_)))); replace bk : Below w.heap.size w w3 := Below.trans (by repeat (first | (with_reducible assumption) | (with_reducible exact Below.refl _ _) | (with_reducible refine below_drewN ?_ _) | (with_reducible refine Below.drew ?_) | (with_reducible refine Below.alloc ?_ (by first | omega | (simp <;> omega)) _))) (hb3.mono (by have := bk.size; first | omega | (simp <;> omega))); clear hb3))
  go_wp2_with fail
  go_region_held3 (fun w' => w'.cell? ⟨w.heap.size, 0, none⟩ = some (.int .u64 low) ∧ w'.cell? ⟨w.heap.size, 1, none⟩ = some (.int .u64 high) ∧ w'.cell? ⟨w.heap.size, 2, none⟩ = some (.map none) ∧ w'.cell? ⟨g1, 0, none⟩ = some (.string (rangeT a b)) ∧ w'.cell? ⟨g2, 0, none⟩ = some (.string (decT a)) ∧ w'.cell? ⟨g2, 1, none⟩ = some (.string (decT b))) (first | (refine ⟨?_, ?_, ?_, ?_, ?_, ?_⟩ <;> (repeat (first | assumption | (with_reducible refine keepD ?_) | (with_reducible refine keepN ?_) | (with_reducible refine keepV ?_)))) | go_keep)
    (first | ((first | (go_at_call 32) | (go_at_call 34)); refine (intOrName_cr b hb _).mono ?_; rintro e w4 ⟨rfl, hb4⟩; have d0 : w4.cell? ⟨w.heap.size, 0, none⟩ = some (.int .u64 low) := (by refine cellB hb4 ?_; (repeat (first | assumption | (with_reducible refine keepD ?_) | (with_reducible refine keepN ?_) | (with_reducible refine keepV ?_)))); have d1 : w4.cell? ⟨w.heap.size, 1, none⟩ = some (.int .u64 high) := (by refine cellB hb4 ?_; (repeat (first | assumption | (with_reducible refine keepD ?_) | (with_reducible refine keepN ?_) | (with_reducible refine keepV ?_)))); have d2 : w4.cell? ⟨w.heap.size, 2, none⟩ = some (.map none) := (by refine cellB hb4 ?_; (repeat (first | assumption | (with_reducible refine keepD ?_) | (with_reducible refine keepN ?_) | (with_reducible refine keepV ?_)))); have x0 : w4.cell? ⟨g1, 0, none⟩ = some (.string (rangeT a b)) := (by refine cellB hb4 ?_; (repeat (first | assumption | (with_reducible refine keepD ?_) | (with_reducible refine keepN ?_) | (with_reducible refine keepV ?_)))); have y0 : w4.cell? ⟨g2, 0, none⟩ = some (.string (decT a)) := (by refine cellB hb4 ?_; (repeat (first | assumption | (with_reducible refine keepD ?_) | (with_reducible refine keepN ?_) | (with_reducible refine keepV ?_)))); have y1 : w4.cell? ⟨g2, 1, none⟩ = some (.string (decT b)) := (by refine cellB hb4 ?_; (repeat (first | assumption | (with_reducible refine keepD ?_) | (with_reducible refine keepN ?_) | (with_reducible refine keepV ?_)))); replace bk : Below w.heap.size w w4 := Below.trans (by repeat (first | (with_reducible assumption) | (with_reducible exact Below.refl _ _) | (with_reducible refine below_drewN ?_ _) | (with_reducible refine Below.drew ?_) | (with_reducible refine Below.alloc ?_ (by first | omega | (simp <;> omega)) _))) (hb4.mono (by have := bk.size; first | omega | (simp <;> omega))); clear hb4))
  go_wp2_with fail
  refine (errNew_any _ _).mono ?_
  rintro e w9 ⟨⟨t, p, rfl⟩, rfl⟩
  go_wp2_with fail
  refine bodyPost_ret (v := .tuple #[.int .u64 0, .iface t p]) (by simp [results, Tryd.results23, go_sem]) rfl ⟨⟨t, p, rfl⟩, ?_⟩
  have nk : w.heap.size ≤ w4.heap.size := bk.size
  exact (by repeat (first | (with_reducible assumption) | (with_reducible exact Below.refl _ _) | (with_reducible refine below_drewN ?_ _) | (with_reducible refine Below.drew ?_) | (with_reducible refine Below.alloc ?_ (by first | omega | (simp <;> omega)) _)))

set_option maxRecDepth 100000 in
set_option maxHeartbeats 4000000 in
theorem rp_by (low high a b : Nat) (hh : high ≤ 62) (ha : a < 9223372036854775808) (hb : b < 9223372036854775808) (w : World) (h1 : low ≤ a) (h2 : b ≤ high) (h3 : b < a) :
    Calls Tryd.prog 23 #[.string (rangeT a b), .agg #[.int .u64 low, .int .u64 high, .map none]] w (RangeErr w) := by
  have hsz := rangeT_size a b (by omega) (by omega)
  have s1 := decT_star 42 (by omega) a 42 rfl
  have s2 := decT_star 63 (by omega) a 63 rfl
  have i1 : ((a : Int) < (low : Int)) = False := by simp; omega
  have i2 : ((high : Int) < (b : Int)) = False := by simp; omega
  have i3 : ((b : Int) < (a : Int)) = True := by simp; exact h3
  go_enter Tryd.func23, Tryd.ntmps23
  go_wp2_with fail
  have e0 : (w.alloc (.cells #[.int .u64 low, .int .u64 high, .map none] 49)).heap[w.heap.size]? = some (.cells #[.int .u64 low, .int .u64 high, .map none] 49) := heap_alloc_new w _
  have hw0 : Below w.heap.size w (w.alloc (.cells #[.int .u64 low, .int .u64 high, .map none] 49)) := (by repeat (first | (with_reducible assumption) | (with_reducible exact Below.refl _ _) | (with_reducible refine below_drewN ?_ _) | (with_reducible refine Below.drew ?_) | (with_reducible refine Below.alloc ?_ (by first | omega | (simp <;> omega)) _)))
  refine (splitSv_any (rangeT a b) 47 (by omega) _).mono ?_
  rintro e w1 ⟨v1, rfl, hown1, hb1⟩
  have d0 : w1.cell? ⟨w.heap.size, 0, none⟩ = some (.int .u64 low) := cellB hb1 (cell_of_row _ _ 0 _ _ (0, 0) e0)
  have d1 : w1.cell? ⟨w.heap.size, 1, none⟩ = some (.int .u64 high) := cellB hb1 (cell_of_row _ _ 1 _ _ (0, 0) e0)
  have d2 : w1.cell? ⟨w.heap.size, 2, none⟩ = some (.map none) := cellB hb1 (cell_of_row _ _ 2 _ _ (0, 0) e0)
  have bk : Below w.heap.size w w1 := hw0.trans (hb1.mono hw0.size)
  clear hb1 hw0 e0
  rw [show ((47 : UInt8).toNat : Int) = 47 from rfl, cut_plain] at hown1
  obtain ⟨g1, cap1, rfl, hc1, hm1, hcell1⟩ := own_open hown1 (by simp)
  have x0 : w1.cell? ⟨g1, 0, none⟩ = some (.string (rangeT a b)) := hcell1 0 (by simp)
  simp only [List.length_cons, List.length_nil, Nat.zero_add, Nat.reduceAdd] at hc1 ⊢
  unfold maxLen at hm1
  clear hown1 hcell1
  go_wp2_with fail
  refine (splitSv_any (rangeT a b) 45 (by omega) _).mono ?_
  rintro e w2 ⟨v2, rfl, hown2, hb2⟩
  have d0 : w2.cell? ⟨w.heap.size, 0, none⟩ = some (.int .u64 low) := cellB hb2 d0
  have d1 : w2.cell? ⟨w.heap.size, 1, none⟩ = some (.int .u64 high) := cellB hb2 d1
  have d2 : w2.cell? ⟨w.heap.size, 2, none⟩ = some (.map none) := cellB hb2 d2
  have x0 : w2.cell? ⟨g1, 0, none⟩ = some (.string (rangeT a b)) := cellB hb2 x0
  replace bk : Below w.heap.size w w2 := bk.trans (hb2.mono bk.size)
  clear hb2
  rw [show ((45 : UInt8).toNat : Int) = 45 from rfl, cut_range] at hown2
  obtain ⟨g2, cap2, rfl, hc2, hm2, hcell2⟩ := own_open hown2 (by simp)
  have y0 : w2.cell? ⟨g2, 0, none⟩ = some (.string (decT a)) := hcell2 0 (by simp)
  have y1 : w2.cell? ⟨g2, 1, none⟩ = some (.string (decT b)) := hcell2 1 (by simp)
  simp only [List.length_cons, List.length_nil, Nat.zero_add, Nat.reduceAdd] at hc2 ⊢
  unfold maxLen at hm2
  clear hown2 hcell2
  go_wp2_with fail
  go_region_held3 (fun w' => w'.cell? ⟨w.heap.size, 0, none⟩ = some (.int .u64 low) ∧ w'.cell? ⟨w.heap.size, 1, none⟩ = some (.int .u64 high) ∧ w'.cell? ⟨w.heap.size, 2, none⟩ = some (.map none) ∧ w'.cell? ⟨g1, 0, none⟩ = some (.string (rangeT a b)) ∧ w'.cell? ⟨g2, 0, none⟩ = some (.string (decT a)) ∧ w'.cell? ⟨g2, 1, none⟩ = some (.string (decT b))) (first | (refine ⟨?_, ?_, ?_, ?_, ?_, ?_⟩ <;> (repeat (first | assumption | (with_reducible refine keepD ?_) | (with_reducible refine keepN ?_) | (with_reducible refine keepV ?_)))) | go_keep)
    (first | ((first | (go_at_call 32) | (go_at_call 34)); refine (intOrName_cr a ha _).mono ?_; rintro e w3 ⟨rfl, hb3⟩; have d0 : w3.cell? ⟨w.heap.size, 0, none⟩ = some (.int .u64 low) := (by refine cellB hb3 ?_; (repeat (first | assumption | (with_reducible refine keepD ?_) | (with_reducible refine keepN ?_) | (with_reducible refine keepV ?_)))); have d1 : w3.cell? ⟨w.heap.size, 1, none⟩ = some (.int .u64 high) := (by refine cellB hb3 ?_; (repeat (first | assumption | (with_reducible refine keepD ?_) | (with_reducible refine keepN ?_) | (with_reducible refine keepV ?_)))); have d2 : w3.cell? ⟨w.heap.size, 2, none⟩ = some (.map none) := (by refine cellB hb3 ?_; (repeat (first | assumption | (with_reducible refine keepD ?_) | (with_reducible refine keepN ?_) | (with_reducible refine keepV ?_)))); have x0 : w3.cell? ⟨g1, 0, none⟩ = some (.string (rangeT a b)) := (by refine cellB hb3 ?_; (repeat (first | assumption | (with_reducible refine keepD ?_) | (with_reducible refine keepN ?_) | (with_reducible refine keepV ?_)))); have y0 : w3.cell? ⟨g2, 0, none⟩ = some (.string (decT a)) := (by refine cellB hb3 ?_; (repeat (first | assumption | (with_reducible refine keepD ?_) | (with_reducible refine keepN ?_) | (with_reducible refine keepV ?_)))); have y1 : w3.cell? ⟨g2, 1, none⟩ = some (.string (decT b)) := (by refine cellB hb3 ?_; (repeat (first | assumption | (with_reducible refine keepD ?_) | (with_reducible refine keepN ?_) | (with_reducible refine keepV ?_)))); replace bk : Below w.heap.size w w3 := Below.trans (by repeat (first | (with_reducible assumption) | (with_reducible exact Below.refl _ _) | (with_reducible refine below_drewN ?_ _) | (with_reducible refine Below.drew ?_) | (with_reducible refine Below.alloc ?_ (by first | omega | (simp <;> omega)) _))) (hb3.mono (by have := bk.size; first | omega | (simp <;> omega))); clear hb3))
  go_wp2_with fail
  go_region_held3 (fun w' => w'.cell? ⟨w.heap.size, 0, none⟩ = some (.int .u64 low) ∧ w'.cell? ⟨w.heap.size, 1, none⟩ = some (.int .u64 high) ∧ w'.cell? ⟨w.heap.size, 2, none⟩ = some (.map none) ∧ w'.cell? ⟨g1, 0, none⟩ = some (.string (rangeT a b)) ∧ w'.cell? ⟨g2, 0, none⟩ = some (.string (decT a)) ∧ w'.cell? ⟨g2, 1, none⟩ = some (.string (decT b))) (first | (refine ⟨?_, ?_, ?_, ?_, ?_, ?_⟩ <;> (repeat (first | assumption | (with_reducible refine keepD ?_) | (with_reducible refine keepN ?_) | (with_reducible refine keepV ?_)))) | go_keep)
    (first | ((first | (go_at_call 32) | (go_at_call 34)); refine (intOrName_cr b hb _).mono ?_; rintro e w4 ⟨rfl, hb4⟩; have d0 : w4.cell? ⟨w.heap.size, 0, none⟩ = some (.int .u64 low) := (by refine cellB hb4 ?_; (repeat (first | assumption | (with_reducible refine keepD ?_) | (with_reducible refine keepN ?_) | (with_reducible refine keepV ?_)))); have d1 : w4.cell? ⟨w.heap.size, 1, none⟩ = some (.int .u64 high) := (by refine cellB hb4 ?_; (repeat (first | assumption | (with_reducible refine keepD ?_) | (with_reducible refine keepN ?_) | (with_reducible refine keepV ?_)))); have d2 : w4.cell? ⟨w.heap.size, 2, none⟩ = some (.map none) := (by refine cellB hb4 ?_; (repeat (first | assumption | (with_reducible refine keepD ?_) | (with_reducible refine keepN ?_) | (with_reducible refine keepV ?_)))); have x0 : w4.cell? ⟨g1, 0, none⟩ = some (.string (rangeT a b)) := (by refine cellB hb4 ?_; (repeat (first | assumption | (with_reducible refine keepD ?_) | (with_reducible refine keepN ?_) | (with_reducible refine keepV ?_)))); have y0 : w4.cell? ⟨g2, 0, none⟩ = some (.string (decT a)) := (by refine cellB hb4 ?_; (repeat (first | assumption | (with_reducible refine keepD ?_) | (with_reducible refine keepN ?_) | (with_reducible refine keepV ?_)))); have y1 : w4.cell? ⟨g2, 1, none⟩ = some (.string (decT b)) := (by refine cellB hb4 ?_; (repeat (first | assumption | (with_reducible refine keepD ?_) | (with_reducible refine keepN ?_) | (with_reducible refine keepV ?_)))); replace bk : Below w.heap.size w w4 := Below.trans (by repeat (first | (with_reducible assumption) | (with_reducible exact Below.refl _ _) | (with_reducible refine below_drewN ?_ _) | (with_reducible refine Below.drew ?_) | (with_reducible refine Below.alloc ?_ (by first | omega | (simp <;> omega)) _))) (hb4.mono (by have := bk.size; first | omega | (simp <;> omega))); clear hb4))
  go_wp2_with fail
  refine (errNew_any _ _).mono ?_
  rintro e w9 ⟨⟨t, p, rfl⟩, rfl⟩
  go_wp2_with fail
  refine bodyPost_ret (v := .tuple #[.int .u64 0, .iface t p]) (by simp [results, Tryd.results23, go_sem]) rfl ⟨⟨t, p, rfl⟩, ?_⟩
  have nk : w.heap.size ≤ w4.heap.size := bk.size
  exact (by repeat (first | (with_reducible assumption) | (with_reducible exact Below.refl _ _) | (with_reducible refine below_drewN ?_ _) | (with_reducible refine Below.drew ?_) | (with_reducible refine Below.alloc ?_ (by first | omega | (simp <;> omega)) _)))

set_option maxRecDepth 100000 in
set_option maxHeartbeats 4000000 in
theorem rp_ok (low high a b : Nat) (hh : high ≤ 62) (ha : a < 9223372036854775808) (hb : b < 9223372036854775808) (w : World) (h1 : low ≤ a) (h2 : b ≤ high) (h3 : a ≤ b) :
    Calls Tryd.prog 23 #[.string (rangeT a b), .agg #[.int .u64 low, .int .u64 high, .map none]] w (RangeOk (GB a b 1) w) := by
  have hsz := rangeT_size a b (by omega) (by omega)
  have s1 := decT_star 42 (by omega) a 42 rfl
  have s2 := decT_star 63 (by omega) a 63 rfl
  have i1 : ((a : Int) < (low : Int)) = False := by simp; omega
  have i2 : ((high : Int) < (b : Int)) = False := by simp; omega
  have i3 : ((b : Int) < (a : Int)) = False := by simp; omega
  go_enter Tryd.func23, Tryd.ntmps23
  go_wp2_with fail
  have e0 : (w.alloc (.cells #[.int .u64 low, .int .u64 high, .map none] 49)).heap[w.heap.size]? = some (.cells #[.int .u64 low, .int .u64 high, .map none] 49) := heap_alloc_new w _
  have hw0 : Below w.heap.size w (w.alloc (.cells #[.int .u64 low, .int .u64 high, .map none] 49)) := (by repeat (first | (with_reducible assumption) | (with_reducible exact Below.refl _ _) | (with_reducible refine below_drewN ?_ _) | (with_reducible refine Below.drew ?_) | (with_reducible refine Below.alloc ?_ (by first | omega | (simp <;> omega)) _)))
  refine (splitSv_any (rangeT a b) 47 (by omega) _).mono ?_
  rintro e w1 ⟨v1, rfl, hown1, hb1⟩
  have d0 : w1.cell? ⟨w.heap.size, 0, none⟩ = some (.int .u64 low) := cellB hb1 (cell_of_row _ _ 0 _ _ (0, 0) e0)
  have d1 : w1.cell? ⟨w.heap.size, 1, none⟩ = some (.int .u64 high) := cellB hb1 (cell_of_row _ _ 1 _ _ (0, 0) e0)
  have d2 : w1.cell? ⟨w.heap.size, 2, none⟩ = some (.map none) := cellB hb1 (cell_of_row _ _ 2 _ _ (0, 0) e0)
  have bk : Below w.heap.size w w1 := hw0.trans (hb1.mono hw0.size)
  clear hb1 hw0 e0
  rw [show ((47 : UInt8).toNat : Int) = 47 from rfl, cut_plain] at hown1
  obtain ⟨g1, cap1, rfl, hc1, hm1, hcell1⟩ := own_open hown1 (by simp)
  have x0 : w1.cell? ⟨g1, 0, none⟩ = some (.string (rangeT a b)) := hcell1 0 (by simp)
  simp only [List.length_cons, List.length_nil, Nat.zero_add, Nat.reduceAdd] at hc1 ⊢
  unfold maxLen at hm1
  clear hown1 hcell1
  go_wp2_with fail
  refine (splitSv_any (rangeT a b) 45 (by omega) _).mono ?_
  rintro e w2 ⟨v2, rfl, hown2, hb2⟩
  have d0 : w2.cell? ⟨w.heap.size, 0, none⟩ = some (.int .u64 low) := cellB hb2 d0
  have d1 : w2.cell? ⟨w.heap.size, 1, none⟩ = some (.int .u64 high) := cellB hb2 d1
  have d2 : w2.cell? ⟨w.heap.size, 2, none⟩ = some (.map none) := cellB hb2 d2
  have x0 : w2.cell? ⟨g1, 0, none⟩ = some (.string (rangeT a b)) := cellB hb2 x0
  replace bk : Below w.heap.size w w2 := bk.trans (hb2.mono bk.size)
  clear hb2
  rw [show ((45 : UInt8).toNat : Int) = 45 from rfl, cut_range] at hown2
  obtain ⟨g2, cap2, rfl, hc2, hm2, hcell2⟩ := own_open hown2 (by simp)
  have y0 : w2.cell? ⟨g2, 0, none⟩ = some (.string (decT a)) := hcell2 0 (by simp)
  have y1 : w2.cell? ⟨g2, 1, none⟩ = some (.string (decT b)) := hcell2 1 (by simp)
  simp only [List.length_cons, List.length_nil, Nat.zero_add, Nat.reduceAdd] at hc2 ⊢
  unfold maxLen at hm2
  clear hown2 hcell2
  go_wp2_with fail
  go_region_held3 (fun w' => w'.cell? ⟨w.heap.size, 0, none⟩ = some (.int .u64 low) ∧ w'.cell? ⟨w.heap.size, 1, none⟩ = some (.int .u64 high) ∧ w'.cell? ⟨w.heap.size, 2, none⟩ = some (.map none) ∧ w'.cell? ⟨g1, 0, none⟩ = some (.string (rangeT a b)) ∧ w'.cell? ⟨g2, 0, none⟩ = some (.string (decT a)) ∧ w'.cell? ⟨g2, 1, none⟩ = some (.string (decT b))) (first | (refine ⟨?_, ?_, ?_, ?_, ?_, ?_⟩ <;> (repeat (first | assumption | (with_reducible refine keepD ?_) | (with_reducible refine keepN ?_) | (with_reducible refine keepV ?_)))) | go_keep)
    (first | ((first | (go_at_call 32) | (go_at_call 34)); refine (intOrName_cr a ha _).mono ?_; rintro e w3 ⟨rfl, hb3⟩; have d0 : w3.cell? ⟨w.heap.size, 0, none⟩ = some (.int .u64 low) := (by refine cellB hb3 ?_; (repeat (first | assumption | (with_reducible refine keepD ?_) | (with_reducible refine keepN ?_) | (with_reducible refine keepV ?_)))); have d1 : w3.cell? ⟨w.heap.size, 1, none⟩ = some (.int .u64 high) := (by refine cellB hb3 ?_; (repeat (first | assumption | (with_reducible refine keepD ?_) | (with_reducible refine keepN ?_) | (with_reducible refine keepV ?_)))); have d2 : w3.cell? ⟨w.heap.size, 2, none⟩ = some (.map none) := (by refine cellB hb3 ?_; (repeat (first | assumption | (with_reducible refine keepD ?_) | (with_reducible refine keepN ?_) | (with_reducible refine keepV ?_)))); have x0 : w3.cell? ⟨g1, 0, none⟩ = some (.string (rangeT a b)) := (by refine cellB hb3 ?_; (repeat (first | assumption | (with_reducible refine keepD ?_) | (with_reducible refine keepN ?_) | (with_reducible refine keepV ?_)))); have y0 : w3.cell? ⟨g2, 0, none⟩ = some (.string (decT a)) := (by refine cellB hb3 ?_; (repeat (first | assumption | (with_reducible refine keepD ?_) | (with_reducible refine keepN ?_) | (with_reducible refine keepV ?_)))); have y1 : w3.cell? ⟨g2, 1, none⟩ = some (.string (decT b)) := (by refine cellB hb3 ?_; (repeat (first | assumption | (with_reducible refine keepD ?_) | (with_reducible refine keepN ?_) | (with_reducible refine keepV ?_)))); replace bk : Below w.heap.size w w3 := Below.trans (by repeat (first | (with_reducible assumption) | (with_reducible exact Below.refl _ _) | (with_reducible refine below_drewN ?_ _) | (with_reducible refine Below.drew ?_) | (with_reducible refine Below.alloc ?_ (by first | omega | (simp <;> omega)) _))) (hb3.mono (by have := bk.size; first | omega | (simp <;> omega))); clear hb3))
  go_wp2_with fail
  go_region_held3 (fun w' => w'.cell? ⟨w.heap.size, 0, none⟩ = some (.int .u64 low) ∧ w'.cell? ⟨w.heap.size, 1, none⟩ = some (.int .u64 high) ∧ w'.cell? ⟨w.heap.size, 2, none⟩ = some (.map none) ∧ w'.cell? ⟨g1, 0, none⟩ = some (.string (rangeT a b)) ∧ w'.cell? ⟨g2, 0, none⟩ = some (.string (decT a)) ∧ w'.cell? ⟨g2, 1, none⟩ = some (.string (decT b))) (first | (refine ⟨?_, ?_, ?_, ?_, ?_, ?_⟩ <;> (repeat (first | assumption | (with_reducible refine keepD ?_) | (with_reducible refine keepN ?_) | (with_reducible refine keepV ?_)))) | go_keep)
    (first | ((first | (go_at_call 32) | (go_at_call 34)); refine (intOrName_cr b hb _).mono ?_; rintro e w4 ⟨rfl, hb4⟩; have d0 : w4.cell? ⟨w.heap.size, 0, none⟩ = some (.int .u64 low) := (by refine cellB hb4 ?_; (repeat (first | assumption | (with_reducible refine keepD ?_) | (with_reducible refine keepN ?_) | (with_reducible refine keepV ?_)))); have d1 : w4.cell? ⟨w.heap.size, 1, none⟩ = some (.int .u64 high) := (by refine cellB hb4 ?_; (repeat (first | assumption | (with_reducible refine keepD ?_) | (with_reducible refine keepN ?_) | (with_reducible refine keepV ?_)))); have d2 : w4.cell? ⟨w.heap.size, 2, none⟩ = some (.map none) := (by refine cellB hb4 ?_; (repeat (first | assumption | (with_reducible refine keepD ?_) | (with_reducible refine keepN ?_) | (with_reducible refine keepV ?_)))); have x0 : w4.cell? ⟨g1, 0, none⟩ = some (.string (rangeT a b)) := (by refine cellB hb4 ?_; (repeat (first | assumption | (with_reducible refine keepD ?_) | (with_reducible refine keepN ?_) | (with_reducible refine keepV ?_)))); have y0 : w4.cell? ⟨g2, 0, none⟩ = some (.string (decT a)) := (by refine cellB hb4 ?_; (repeat (first | assumption | (with_reducible refine keepD ?_) | (with_reducible refine keepN ?_) | (with_reducible refine keepV ?_)))); have y1 : w4.cell? ⟨g2, 1, none⟩ = some (.string (decT b)) := (by refine cellB hb4 ?_; (repeat (first | assumption | (with_reducible refine keepD ?_) | (with_reducible refine keepN ?_) | (with_reducible refine keepV ?_)))); replace bk : Below w.heap.size w w4 := Below.trans (by repeat (first | (with_reducible assumption) | (with_reducible exact Below.refl _ _) | (with_reducible refine below_drewN ?_ _) | (with_reducible refine Below.drew ?_) | (with_reducible refine Below.alloc ?_ (by first | omega | (simp <;> omega)) _))) (hb4.mono (by have := bk.size; first | omega | (simp <;> omega))); clear hb4))
  go_wp2_with fail
  refine (getBits_one a b h3 (by omega) _).mono ?_
  rintro e w9 ⟨rfl, rfl⟩
  go_wp2_with fail
  refine bodyPost_ret (v := .tuple #[.int .u64 (GB a b 1 : Nat), .nilIface]) (by simp [results, Tryd.results23, go_sem, or_zero _ (GB_lt _ _ _)]) rfl ⟨rfl, ?_⟩
  have nk : w.heap.size ≤ w4.heap.size := bk.size
  exact (by repeat (first | (with_reducible assumption) | (with_reducible exact Below.refl _ _) | (with_reducible refine below_drewN ?_ _) | (with_reducible refine Below.drew ?_) | (with_reducible refine Below.alloc ?_ (by first | omega | (simp <;> omega)) _)))

end Go.Proofs.YtcbcmbkioibliaaDoor
