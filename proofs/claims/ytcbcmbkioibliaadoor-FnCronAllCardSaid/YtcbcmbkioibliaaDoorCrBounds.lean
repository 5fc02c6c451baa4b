/- cron.zzBounds at each kind. -/
import Derived.Test.YtcbcmbkioibliaaDoorCrRange
import Derived.Maps.Own
import Derived.Maps.Keyed
import Derived.StringKeys
namespace Go.Proofs.YtcbcmbkioibliaaDoor
open Go.RowKit Go.Shelf Go.Maps Go.WideMaps
set_option linter.unusedVariables false
set_option linter.unusedSimpArgs false

/-- A call hands back bounds, whatever the names. -/
def BoundsPost (low high : Nat) (w : World) (e : Ending) (w' : World) : Prop := ∃ M : Option Nat, e = .returned (.agg #[.int .u64 low, .int .u64 high, .map M]) ∧ Below w.heap.size w w'
theorem lawStr : Keyed Tryd.prog 9 := string_keyed Tryd.underlying9

set_option maxRecDepth 100000 in
set_option maxHeartbeats 4000000 in
theorem months_any (w : World) : Calls Tryd.prog 39 #[] w (BoundsPost 1 12 w) := by
  have hmm := @run_makeMap Tryd.prog
  go_enter Tryd.func39, Tryd.ntmps39
  go_wp2_with fail
  have hown0 : ((w.alloc (.cells #[.int .u64 0, .int .u64 0, .map none] 49)).alloc (.map #[] 0)).ownsMap (H := Unit) Tryd.prog 9 (plainElem Tryd.prog 22) (w.heap.size + 1) 0 (.map []) := by
    have := World.ownsMap_made (H := Unit) (w.alloc (.cells #[.int .u64 0, .int .u64 0, .map none] 49)) Tryd.prog 9 (plainElem Tryd.prog 22)
    simpa using this
  have c0 : ((w.alloc (.cells #[.int .u64 0, .int .u64 0, .map none] 49)).alloc (.map #[] 0)).heap[w.heap.size]? = some (.cells #[.int .u64 0, .int .u64 0, .map none] 49) := by
    rw [Below.heap_alloc _ _ _ (by simp)]; exact heap_alloc_new w _
  have bk : Below w.heap.size w ((w.alloc (.cells #[.int .u64 0, .int .u64 0, .map none] 49)).alloc (.map #[] 0)) := (by repeat (first | (with_reducible assumption) | (with_reducible exact Below.refl _ _) | (with_reducible refine below_drewN ?_ _) | (with_reducible refine Below.drew ?_) | (with_reducible refine Below.setCell ?_ (by first | omega | (simp <;> omega)) _) | (with_reducible refine Below.alloc ?_ (by first | omega | (simp <;> omega)) _)))
  generalize (w.alloc (.cells #[.int .u64 0, .int .u64 0, .map none] 49)).alloc (.map #[] 0) = W0 at *
  obtain ⟨W1, r1, hown1, hg1⟩ := hown0.update lawStr Tryd.underlying47 (by unfold maxLen; omega) (key := .string ⟨#[106, 97, 110]⟩) (val := .int .u64 1) (keyOf_string_mk Tryd.underlying9 (by decide)) (plainElem_int Tryd.underlying22 (by decide))
  replace c0 : W1.heap[w.heap.size]? = some (.cells #[.int .u64 0, .int .u64 0, .map none] 49) := (hg1.block _ (Array.getElem?_eq_some_iff.1 c0).1 (by intro h; injection h with h; omega)).trans c0
  replace bk : Below w.heap.size w W1 := Below.grown bk hg1 bk.size (fun k hk => by cases hk; omega)
  obtain ⟨W2, r2, hown2, hg2⟩ := hown1.update lawStr Tryd.underlying47 (by unfold maxLen; omega) (key := .string ⟨#[102, 101, 98]⟩) (val := .int .u64 2) (keyOf_string_mk Tryd.underlying9 (by decide)) (plainElem_int Tryd.underlying22 (by decide))
  replace c0 : W2.heap[w.heap.size]? = some (.cells #[.int .u64 0, .int .u64 0, .map none] 49) := (hg2.block _ (Array.getElem?_eq_some_iff.1 c0).1 (by intro h; injection h with h; omega)).trans c0
  replace bk : Below w.heap.size w W2 := Below.grown bk hg2 bk.size (fun k hk => by cases hk; omega)
  obtain ⟨W3, r3, hown3, hg3⟩ := hown2.update lawStr Tryd.underlying47 (by unfold maxLen; omega) (key := .string ⟨#[109, 97, 114]⟩) (val := .int .u64 3) (keyOf_string_mk Tryd.underlying9 (by decide)) (plainElem_int Tryd.underlying22 (by decide))
  replace c0 : W3.heap[w.heap.size]? = some (.cells #[.int .u64 0, .int .u64 0, .map none] 49) := (hg3.block _ (Array.getElem?_eq_some_iff.1 c0).1 (by intro h; injection h with h; omega)).trans c0
  replace bk : Below w.heap.size w W3 := Below.grown bk hg3 bk.size (fun k hk => by cases hk; omega)
  obtain ⟨W4, r4, hown4, hg4⟩ := hown3.update lawStr Tryd.underlying47 (by unfold maxLen; omega) (key := .string ⟨#[97, 112, 114]⟩) (val := .int .u64 4) (keyOf_string_mk Tryd.underlying9 (by decide)) (plainElem_int Tryd.underlying22 (by decide))
  replace c0 : W4.heap[w.heap.size]? = some (.cells #[.int .u64 0, .int .u64 0, .map none] 49) := (hg4.block _ (Array.getElem?_eq_some_iff.1 c0).1 (by intro h; injection h with h; omega)).trans c0
  replace bk : Below w.heap.size w W4 := Below.grown bk hg4 bk.size (fun k hk => by cases hk; omega)
  obtain ⟨W5, r5, hown5, hg5⟩ := hown4.update lawStr Tryd.underlying47 (by unfold maxLen; omega) (key := .string ⟨#[109, 97, 121]⟩) (val := .int .u64 5) (keyOf_string_mk Tryd.underlying9 (by decide)) (plainElem_int Tryd.underlying22 (by decide))
  replace c0 : W5.heap[w.heap.size]? = some (.cells #[.int .u64 0, .int .u64 0, .map none] 49) := (hg5.block _ (Array.getElem?_eq_some_iff.1 c0).1 (by intro h; injection h with h; omega)).trans c0
  replace bk : Below w.heap.size w W5 := Below.grown bk hg5 bk.size (fun k hk => by cases hk; omega)
  obtain ⟨W6, r6, hown6, hg6⟩ := hown5.update lawStr Tryd.underlying47 (by unfold maxLen; omega) (key := .string ⟨#[106, 117, 110]⟩) (val := .int .u64 6) (keyOf_string_mk Tryd.underlying9 (by decide)) (plainElem_int Tryd.underlying22 (by decide))
  replace c0 : W6.heap[w.heap.size]? = some (.cells #[.int .u64 0, .int .u64 0, .map none] 49) := (hg6.block _ (Array.getElem?_eq_some_iff.1 c0).1 (by intro h; injection h with h; omega)).trans c0
  replace bk : Below w.heap.size w W6 := Below.grown bk hg6 bk.size (fun k hk => by cases hk; omega)
  obtain ⟨W7, r7, hown7, hg7⟩ := hown6.update lawStr Tryd.underlying47 (by unfold maxLen; omega) (key := .string ⟨#[106, 117, 108]⟩) (val := .int .u64 7) (keyOf_string_mk Tryd.underlying9 (by decide)) (plainElem_int Tryd.underlying22 (by decide))
  replace c0 : W7.heap[w.heap.size]? = some (.cells #[.int .u64 0, .int .u64 0, .map none] 49) := (hg7.block _ (Array.getElem?_eq_some_iff.1 c0).1 (by intro h; injection h with h; omega)).trans c0
  replace bk : Below w.heap.size w W7 := Below.grown bk hg7 bk.size (fun k hk => by cases hk; omega)
  obtain ⟨W8, r8, hown8, hg8⟩ := hown7.update lawStr Tryd.underlying47 (by unfold maxLen; omega) (key := .string ⟨#[97, 117, 103]⟩) (val := .int .u64 8) (keyOf_string_mk Tryd.underlying9 (by decide)) (plainElem_int Tryd.underlying22 (by decide))
  replace c0 : W8.heap[w.heap.size]? = some (.cells #[.int .u64 0, .int .u64 0, .map none] 49) := (hg8.block _ (Array.getElem?_eq_some_iff.1 c0).1 (by intro h; injection h with h; omega)).trans c0
  replace bk : Below w.heap.size w W8 := Below.grown bk hg8 bk.size (fun k hk => by cases hk; omega)
  obtain ⟨W9, r9, hown9, hg9⟩ := hown8.update lawStr Tryd.underlying47 (by unfold maxLen; omega) (key := .string ⟨#[115, 101, 112]⟩) (val := .int .u64 9) (keyOf_string_mk Tryd.underlying9 (by decide)) (plainElem_int Tryd.underlying22 (by decide))
  replace c0 : W9.heap[w.heap.size]? = some (.cells #[.int .u64 0, .int .u64 0, .map none] 49) := (hg9.block _ (Array.getElem?_eq_some_iff.1 c0).1 (by intro h; injection h with h; omega)).trans c0
  replace bk : Below w.heap.size w W9 := Below.grown bk hg9 bk.size (fun k hk => by cases hk; omega)
  obtain ⟨W10, r10, hown10, hg10⟩ := hown9.update lawStr Tryd.underlying47 (by unfold maxLen; omega) (key := .string ⟨#[111, 99, 116]⟩) (val := .int .u64 10) (keyOf_string_mk Tryd.underlying9 (by decide)) (plainElem_int Tryd.underlying22 (by decide))
  replace c0 : W10.heap[w.heap.size]? = some (.cells #[.int .u64 0, .int .u64 0, .map none] 49) := (hg10.block _ (Array.getElem?_eq_some_iff.1 c0).1 (by intro h; injection h with h; omega)).trans c0
  replace bk : Below w.heap.size w W10 := Below.grown bk hg10 bk.size (fun k hk => by cases hk; omega)
  obtain ⟨W11, r11, hown11, hg11⟩ := hown10.update lawStr Tryd.underlying47 (by unfold maxLen; omega) (key := .string ⟨#[110, 111, 118]⟩) (val := .int .u64 11) (keyOf_string_mk Tryd.underlying9 (by decide)) (plainElem_int Tryd.underlying22 (by decide))
  replace c0 : W11.heap[w.heap.size]? = some (.cells #[.int .u64 0, .int .u64 0, .map none] 49) := (hg11.block _ (Array.getElem?_eq_some_iff.1 c0).1 (by intro h; injection h with h; omega)).trans c0
  replace bk : Below w.heap.size w W11 := Below.grown bk hg11 bk.size (fun k hk => by cases hk; omega)
  obtain ⟨W12, r12, hown12, hg12⟩ := hown11.update lawStr Tryd.underlying47 (by unfold maxLen; omega) (key := .string ⟨#[100, 101, 99]⟩) (val := .int .u64 12) (keyOf_string_mk Tryd.underlying9 (by decide)) (plainElem_int Tryd.underlying22 (by decide))
  replace c0 : W12.heap[w.heap.size]? = some (.cells #[.int .u64 0, .int .u64 0, .map none] 49) := (hg12.block _ (Array.getElem?_eq_some_iff.1 c0).1 (by intro h; injection h with h; omega)).trans c0
  replace bk : Below w.heap.size w W12 := Below.grown bk hg12 bk.size (fun k hk => by cases hk; omega)
  have k0 : W12.cell? ⟨w.heap.size, 0, none⟩ = some (.int .u64 0) := cell_of_row _ _ 0 _ _ (0, 0) c0
  have f0 : W12.frozen? ⟨w.heap.size, 0, none⟩ = false := by simp [World.frozen?, c0]
  have k1 : W12.cell? ⟨w.heap.size, 1, none⟩ = some (.int .u64 0) := cell_of_row _ _ 1 _ _ (0, 0) c0
  have f1 : W12.frozen? ⟨w.heap.size, 1, none⟩ = false := by simp [World.frozen?, c0]
  have k2 : W12.cell? ⟨w.heap.size, 2, none⟩ = some (.map none) := cell_of_row _ _ 2 _ _ (0, 0) c0
  have f2 : W12.frozen? ⟨w.heap.size, 2, none⟩ = false := by simp [World.frozen?, c0]
  have nk : w.heap.size ≤ W12.heap.size := bk.size
  go_wp2_with fail
  refine bodyPost_ret (v := .agg #[.int .u64 1, .int .u64 12, .map (some (w.heap.size + 1))]) ?_ rfl ⟨_, rfl, ?_⟩
  · simp [results, Tryd.results39, go_sem, k0, k1, k2]
  · exact (by repeat (first | (with_reducible assumption) | (with_reducible exact Below.refl _ _) | (with_reducible refine below_drewN ?_ _) | (with_reducible refine Below.drew ?_) | (with_reducible refine Below.setCell ?_ (by first | omega | (simp <;> omega)) _) | (with_reducible refine Below.alloc ?_ (by first | omega | (simp <;> omega)) _)))

set_option maxRecDepth 100000 in
set_option maxHeartbeats 4000000 in
theorem dow_any (w : World) : Calls Tryd.prog 40 #[] w (BoundsPost 0 6 w) := by
  have hmm := @run_makeMap Tryd.prog
  go_enter Tryd.func40, Tryd.ntmps40
  go_wp2_with fail
  have hown0 : ((w.alloc (.cells #[.int .u64 0, .int .u64 0, .map none] 49)).alloc (.map #[] 0)).ownsMap (H := Unit) Tryd.prog 9 (plainElem Tryd.prog 22) (w.heap.size + 1) 0 (.map []) := by
    have := World.ownsMap_made (H := Unit) (w.alloc (.cells #[.int .u64 0, .int .u64 0, .map none] 49)) Tryd.prog 9 (plainElem Tryd.prog 22)
    simpa using this
  have c0 : ((w.alloc (.cells #[.int .u64 0, .int .u64 0, .map none] 49)).alloc (.map #[] 0)).heap[w.heap.size]? = some (.cells #[.int .u64 0, .int .u64 0, .map none] 49) := by
    rw [Below.heap_alloc _ _ _ (by simp)]; exact heap_alloc_new w _
  have bk : Below w.heap.size w ((w.alloc (.cells #[.int .u64 0, .int .u64 0, .map none] 49)).alloc (.map #[] 0)) := (by repeat (first | (with_reducible assumption) | (with_reducible exact Below.refl _ _) | (with_reducible refine below_drewN ?_ _) | (with_reducible refine Below.drew ?_) | (with_reducible refine Below.setCell ?_ (by first | omega | (simp <;> omega)) _) | (with_reducible refine Below.alloc ?_ (by first | omega | (simp <;> omega)) _)))
  generalize (w.alloc (.cells #[.int .u64 0, .int .u64 0, .map none] 49)).alloc (.map #[] 0) = W0 at *
  obtain ⟨W1, r1, hown1, hg1⟩ := hown0.update lawStr Tryd.underlying47 (by unfold maxLen; omega) (key := .string ⟨#[115, 117, 110]⟩) (val := .int .u64 0) (keyOf_string_mk Tryd.underlying9 (by decide)) (plainElem_int Tryd.underlying22 (by decide))
  replace c0 : W1.heap[w.heap.size]? = some (.cells #[.int .u64 0, .int .u64 0, .map none] 49) := (hg1.block _ (Array.getElem?_eq_some_iff.1 c0).1 (by intro h; injection h with h; omega)).trans c0
  replace bk : Below w.heap.size w W1 := Below.grown bk hg1 bk.size (fun k hk => by cases hk; omega)
  obtain ⟨W2, r2, hown2, hg2⟩ := hown1.update lawStr Tryd.underlying47 (by unfold maxLen; omega) (key := .string ⟨#[109, 111, 110]⟩) (val := .int .u64 1) (keyOf_string_mk Tryd.underlying9 (by decide)) (plainElem_int Tryd.underlying22 (by decide))
  replace c0 : W2.heap[w.heap.size]? = some (.cells #[.int .u64 0, .int .u64 0, .map none] 49) := (hg2.block _ (Array.getElem?_eq_some_iff.1 c0).1 (by intro h; injection h with h; omega)).trans c0
  replace bk : Below w.heap.size w W2 := Below.grown bk hg2 bk.size (fun k hk => by cases hk; omega)
  obtain ⟨W3, r3, hown3, hg3⟩ := hown2.update lawStr Tryd.underlying47 (by unfold maxLen; omega) (key := .string ⟨#[116, 117, 101]⟩) (val := .int .u64 2) (keyOf_string_mk Tryd.underlying9 (by decide)) (plainElem_int Tryd.underlying22 (by decide))
  replace c0 : W3.heap[w.heap.size]? = some (.cells #[.int .u64 0, .int .u64 0, .map none] 49) := (hg3.block _ (Array.getElem?_eq_some_iff.1 c0).1 (by intro h; injection h with h; omega)).trans c0
  replace bk : Below w.heap.size w W3 := Below.grown bk hg3 bk.size (fun k hk => by cases hk; omega)
  obtain ⟨W4, r4, hown4, hg4⟩ := hown3.update lawStr Tryd.underlying47 (by unfold maxLen; omega) (key := .string ⟨#[119, 101, 100]⟩) (val := .int .u64 3) (keyOf_string_mk Tryd.underlying9 (by decide)) (plainElem_int Tryd.underlying22 (by decide))
  replace c0 : W4.heap[w.heap.size]? = some (.cells #[.int .u64 0, .int .u64 0, .map none] 49) := (hg4.block _ (Array.getElem?_eq_some_iff.1 c0).1 (by intro h; injection h with h; omega)).trans c0
  replace bk : Below w.heap.size w W4 := Below.grown bk hg4 bk.size (fun k hk => by cases hk; omega)
  obtain ⟨W5, r5, hown5, hg5⟩ := hown4.update lawStr Tryd.underlying47 (by unfold maxLen; omega) (key := .string ⟨#[116, 104, 117]⟩) (val := .int .u64 4) (keyOf_string_mk Tryd.underlying9 (by decide)) (plainElem_int Tryd.underlying22 (by decide))
  replace c0 : W5.heap[w.heap.size]? = some (.cells #[.int .u64 0, .int .u64 0, .map none] 49) := (hg5.block _ (Array.getElem?_eq_some_iff.1 c0).1 (by intro h; injection h with h; omega)).trans c0
  replace bk : Below w.heap.size w W5 := Below.grown bk hg5 bk.size (fun k hk => by cases hk; omega)
  obtain ⟨W6, r6, hown6, hg6⟩ := hown5.update lawStr Tryd.underlying47 (by unfold maxLen; omega) (key := .string ⟨#[102, 114, 105]⟩) (val := .int .u64 5) (keyOf_string_mk Tryd.underlying9 (by decide)) (plainElem_int Tryd.underlying22 (by decide))
  replace c0 : W6.heap[w.heap.size]? = some (.cells #[.int .u64 0, .int .u64 0, .map none] 49) := (hg6.block _ (Array.getElem?_eq_some_iff.1 c0).1 (by intro h; injection h with h; omega)).trans c0
  replace bk : Below w.heap.size w W6 := Below.grown bk hg6 bk.size (fun k hk => by cases hk; omega)
  obtain ⟨W7, r7, hown7, hg7⟩ := hown6.update lawStr Tryd.underlying47 (by unfold maxLen; omega) (key := .string ⟨#[115, 97, 116]⟩) (val := .int .u64 6) (keyOf_string_mk Tryd.underlying9 (by decide)) (plainElem_int Tryd.underlying22 (by decide))
  replace c0 : W7.heap[w.heap.size]? = some (.cells #[.int .u64 0, .int .u64 0, .map none] 49) := (hg7.block _ (Array.getElem?_eq_some_iff.1 c0).1 (by intro h; injection h with h; omega)).trans c0
  replace bk : Below w.heap.size w W7 := Below.grown bk hg7 bk.size (fun k hk => by cases hk; omega)
  have k0 : W7.cell? ⟨w.heap.size, 0, none⟩ = some (.int .u64 0) := cell_of_row _ _ 0 _ _ (0, 0) c0
  have f0 : W7.frozen? ⟨w.heap.size, 0, none⟩ = false := by simp [World.frozen?, c0]
  have k1 : W7.cell? ⟨w.heap.size, 1, none⟩ = some (.int .u64 0) := cell_of_row _ _ 1 _ _ (0, 0) c0
  have f1 : W7.frozen? ⟨w.heap.size, 1, none⟩ = false := by simp [World.frozen?, c0]
  have k2 : W7.cell? ⟨w.heap.size, 2, none⟩ = some (.map none) := cell_of_row _ _ 2 _ _ (0, 0) c0
  have f2 : W7.frozen? ⟨w.heap.size, 2, none⟩ = false := by simp [World.frozen?, c0]
  have nk : w.heap.size ≤ W7.heap.size := bk.size
  go_wp2_with fail
  refine bodyPost_ret (v := .agg #[.int .u64 0, .int .u64 6, .map (some (w.heap.size + 1))]) ?_ rfl ⟨_, rfl, ?_⟩
  · simp [results, Tryd.results40, go_sem, k0, k1, k2]
  · exact (by repeat (first | (with_reducible assumption) | (with_reducible exact Below.refl _ _) | (with_reducible refine below_drewN ?_ _) | (with_reducible refine Below.drew ?_) | (with_reducible refine Below.setCell ?_ (by first | omega | (simp <;> omega)) _) | (with_reducible refine Below.alloc ?_ (by first | omega | (simp <;> omega)) _)))

set_option maxRecDepth 100000 in
set_option maxHeartbeats 1000000 in
theorem seconds_any (w : World) : Calls Tryd.prog 35 #[] w (BoundsPost 0 59 w) := by
  go_enter Tryd.func35, Tryd.ntmps35
  go_wp2_with fail
  refine bodyPost_ret (v := .agg #[.int .u64 0, .int .u64 59, .map none]) (by simp [results, Tryd.results35, go_sem]) rfl ⟨_, rfl, ?_⟩
  exact (by repeat (first | (with_reducible assumption) | (with_reducible exact Below.refl _ _) | (with_reducible refine below_drewN ?_ _) | (with_reducible refine Below.drew ?_) | (with_reducible refine Below.setCell ?_ (by first | omega | (simp <;> omega)) _) | (with_reducible refine Below.alloc ?_ (by first | omega | (simp <;> omega)) _)))

set_option maxRecDepth 100000 in
set_option maxHeartbeats 1000000 in
theorem minutes_any (w : World) : Calls Tryd.prog 36 #[] w (BoundsPost 0 59 w) := by
  go_enter Tryd.func36, Tryd.ntmps36
  go_wp2_with fail
  refine bodyPost_ret (v := .agg #[.int .u64 0, .int .u64 59, .map none]) (by simp [results, Tryd.results36, go_sem]) rfl ⟨_, rfl, ?_⟩
  exact (by repeat (first | (with_reducible assumption) | (with_reducible exact Below.refl _ _) | (with_reducible refine below_drewN ?_ _) | (with_reducible refine Below.drew ?_) | (with_reducible refine Below.setCell ?_ (by first | omega | (simp <;> omega)) _) | (with_reducible refine Below.alloc ?_ (by first | omega | (simp <;> omega)) _)))

set_option maxRecDepth 100000 in
set_option maxHeartbeats 1000000 in
theorem hours_any (w : World) : Calls Tryd.prog 37 #[] w (BoundsPost 0 23 w) := by
  go_enter Tryd.func37, Tryd.ntmps37
  go_wp2_with fail
  refine bodyPost_ret (v := .agg #[.int .u64 0, .int .u64 23, .map none]) (by simp [results, Tryd.results37, go_sem]) rfl ⟨_, rfl, ?_⟩
  exact (by repeat (first | (with_reducible assumption) | (with_reducible exact Below.refl _ _) | (with_reducible refine below_drewN ?_ _) | (with_reducible refine Below.drew ?_) | (with_reducible refine Below.setCell ?_ (by first | omega | (simp <;> omega)) _) | (with_reducible refine Below.alloc ?_ (by first | omega | (simp <;> omega)) _)))

set_option maxRecDepth 100000 in
set_option maxHeartbeats 1000000 in
theorem dom_any (w : World) : Calls Tryd.prog 38 #[] w (BoundsPost 1 31 w) := by
  go_enter Tryd.func38, Tryd.ntmps38
  go_wp2_with fail
  refine bodyPost_ret (v := .agg #[.int .u64 1, .int .u64 31, .map none]) (by simp [results, Tryd.results38, go_sem]) rfl ⟨_, rfl, ?_⟩
  exact (by repeat (first | (with_reducible assumption) | (with_reducible exact Below.refl _ _) | (with_reducible refine below_drewN ?_ _) | (with_reducible refine Below.drew ?_) | (with_reducible refine Below.setCell ?_ (by first | omega | (simp <;> omega)) _) | (with_reducible refine Below.alloc ?_ (by first | omega | (simp <;> omega)) _)))

set_option maxRecDepth 100000 in
set_option maxHeartbeats 1000000 in
theorem bounds_0 (w : World) : Calls Tryd.prog 25 #[.int .i64 0] w (BoundsPost 0 59 w) := by
  go_enter Tryd.func25, Tryd.ntmps25
  go_wp2_with fail
  have e0 : (w.alloc (.cells #[.int .u64 0, .int .u64 0, .map none] 49)).heap[w.heap.size]? = some (.cells #[.int .u64 0, .int .u64 0, .map none] 49) := heap_alloc_new w _
  have hw0 : Below w.heap.size w (w.alloc (.cells #[.int .u64 0, .int .u64 0, .map none] 49)) := (by repeat (first | (with_reducible assumption) | (with_reducible exact Below.refl _ _) | (with_reducible refine below_drewN ?_ _) | (with_reducible refine Below.drew ?_) | (with_reducible refine Below.setCell ?_ (by first | omega | (simp <;> omega)) _) | (with_reducible refine Below.alloc ?_ (by first | omega | (simp <;> omega)) _)))
  refine (seconds_any _).mono ?_
  rintro e w' ⟨M, rfl, hb⟩
  have c0 : w'.heap[w.heap.size]? = some (.cells #[.int .u64 0, .int .u64 0, .map none] 49) := (hb.block _ (by simp)).trans e0
  have bk : Below w.heap.size w w' := hw0.trans (hb.mono hw0.size)
  have nk : w.heap.size ≤ w'.heap.size := bk.size
  clear e0 hw0 hb
  have k0 : w'.cell? ⟨w.heap.size, 0, none⟩ = some (.int .u64 0) := cell_of_row _ _ 0 _ _ (0, 0) c0
  have f0 : w'.frozen? ⟨w.heap.size, 0, none⟩ = false := by simp [World.frozen?, c0]
  have k1 : w'.cell? ⟨w.heap.size, 1, none⟩ = some (.int .u64 0) := cell_of_row _ _ 1 _ _ (0, 0) c0
  have f1 : w'.frozen? ⟨w.heap.size, 1, none⟩ = false := by simp [World.frozen?, c0]
  have k2 : w'.cell? ⟨w.heap.size, 2, none⟩ = some (.map none) := cell_of_row _ _ 2 _ _ (0, 0) c0
  have f2 : w'.frozen? ⟨w.heap.size, 2, none⟩ = false := by simp [World.frozen?, c0]
  go_wp2_with fail
  refine bodyPost_ret (v := .agg #[.int .u64 0, .int .u64 59, .map M]) ?_ rfl ⟨_, rfl, ?_⟩
  · simp [results, Tryd.results25, go_sem, k0, k1, k2]
  · exact (by repeat (first | (with_reducible assumption) | (with_reducible exact Below.refl _ _) | (with_reducible refine below_drewN ?_ _) | (with_reducible refine Below.drew ?_) | (with_reducible refine Below.setCell ?_ (by first | omega | (simp <;> omega)) _) | (with_reducible refine Below.alloc ?_ (by first | omega | (simp <;> omega)) _)))

set_option maxRecDepth 100000 in
set_option maxHeartbeats 1000000 in
theorem bounds_1 (w : World) : Calls Tryd.prog 25 #[.int .i64 1] w (BoundsPost 0 59 w) := by
  go_enter Tryd.func25, Tryd.ntmps25
  go_wp2_with fail
  have e0 : (w.alloc (.cells #[.int .u64 0, .int .u64 0, .map none] 49)).heap[w.heap.size]? = some (.cells #[.int .u64 0, .int .u64 0, .map none] 49) := heap_alloc_new w _
  have hw0 : Below w.heap.size w (w.alloc (.cells #[.int .u64 0, .int .u64 0, .map none] 49)) := (by repeat (first | (with_reducible assumption) | (with_reducible exact Below.refl _ _) | (with_reducible refine below_drewN ?_ _) | (with_reducible refine Below.drew ?_) | (with_reducible refine Below.setCell ?_ (by first | omega | (simp <;> omega)) _) | (with_reducible refine Below.alloc ?_ (by first | omega | (simp <;> omega)) _)))
  refine (minutes_any _).mono ?_
  rintro e w' ⟨M, rfl, hb⟩
  have c0 : w'.heap[w.heap.size]? = some (.cells #[.int .u64 0, .int .u64 0, .map none] 49) := (hb.block _ (by simp)).trans e0
  have bk : Below w.heap.size w w' := hw0.trans (hb.mono hw0.size)
  have nk : w.heap.size ≤ w'.heap.size := bk.size
  clear e0 hw0 hb
  have k0 : w'.cell? ⟨w.heap.size, 0, none⟩ = some (.int .u64 0) := cell_of_row _ _ 0 _ _ (0, 0) c0
  have f0 : w'.frozen? ⟨w.heap.size, 0, none⟩ = false := by simp [World.frozen?, c0]
  have k1 : w'.cell? ⟨w.heap.size, 1, none⟩ = some (.int .u64 0) := cell_of_row _ _ 1 _ _ (0, 0) c0
  have f1 : w'.frozen? ⟨w.heap.size, 1, none⟩ = false := by simp [World.frozen?, c0]
  have k2 : w'.cell? ⟨w.heap.size, 2, none⟩ = some (.map none) := cell_of_row _ _ 2 _ _ (0, 0) c0
  have f2 : w'.frozen? ⟨w.heap.size, 2, none⟩ = false := by simp [World.frozen?, c0]
  go_wp2_with fail
  refine bodyPost_ret (v := .agg #[.int .u64 0, .int .u64 59, .map M]) ?_ rfl ⟨_, rfl, ?_⟩
  · simp [results, Tryd.results25, go_sem, k0, k1, k2]
  · exact (by repeat (first | (with_reducible assumption) | (with_reducible exact Below.refl _ _) | (with_reducible refine below_drewN ?_ _) | (with_reducible refine Below.drew ?_) | (with_reducible refine Below.setCell ?_ (by first | omega | (simp <;> omega)) _) | (with_reducible refine Below.alloc ?_ (by first | omega | (simp <;> omega)) _)))

set_option maxRecDepth 100000 in
set_option maxHeartbeats 1000000 in
theorem bounds_2 (w : World) : Calls Tryd.prog 25 #[.int .i64 2] w (BoundsPost 0 23 w) := by
  go_enter Tryd.func25, Tryd.ntmps25
  go_wp2_with fail
  have e0 : (w.alloc (.cells #[.int .u64 0, .int .u64 0, .map none] 49)).heap[w.heap.size]? = some (.cells #[.int .u64 0, .int .u64 0, .map none] 49) := heap_alloc_new w _
  have hw0 : Below w.heap.size w (w.alloc (.cells #[.int .u64 0, .int .u64 0, .map none] 49)) := (by repeat (first | (with_reducible assumption) | (with_reducible exact Below.refl _ _) | (with_reducible refine below_drewN ?_ _) | (with_reducible refine Below.drew ?_) | (with_reducible refine Below.setCell ?_ (by first | omega | (simp <;> omega)) _) | (with_reducible refine Below.alloc ?_ (by first | omega | (simp <;> omega)) _)))
  refine (hours_any _).mono ?_
  rintro e w' ⟨M, rfl, hb⟩
  have c0 : w'.heap[w.heap.size]? = some (.cells #[.int .u64 0, .int .u64 0, .map none] 49) := (hb.block _ (by simp)).trans e0
  have bk : Below w.heap.size w w' := hw0.trans (hb.mono hw0.size)
  have nk : w.heap.size ≤ w'.heap.size := bk.size
  clear e0 hw0 hb
  have k0 : w'.cell? ⟨w.heap.size, 0, none⟩ = some (.int .u64 0) := cell_of_row _ _ 0 _ _ (0, 0) c0
  have f0 : w'.frozen? ⟨w.heap.size, 0, none⟩ = false := by simp [World.frozen?, c0]
  have k1 : w'.cell? ⟨w.heap.size, 1, none⟩ = some (.int .u64 0) := cell_of_row _ _ 1 _ _ (0, 0) c0
  have f1 : w'.frozen? ⟨w.heap.size, 1, none⟩ = false := by simp [World.frozen?, c0]
  have k2 : w'.cell? ⟨w.heap.size, 2, none⟩ = some (.map none) := cell_of_row _ _ 2 _ _ (0, 0) c0
  have f2 : w'.frozen? ⟨w.heap.size, 2, none⟩ = false := by simp [World.frozen?, c0]
  go_wp2_with fail
  refine bodyPost_ret (v := .agg #[.int .u64 0, .int .u64 23, .map M]) ?_ rfl ⟨_, rfl, ?_⟩
  · simp [results, Tryd.results25, go_sem, k0, k1, k2]
  · exact (by repeat (first | (with_reducible assumption) | (with_reducible exact Below.refl _ _) | (with_reducible refine below_drewN ?_ _) | (with_reducible refine Below.drew ?_) | (with_reducible refine Below.setCell ?_ (by first | omega | (simp <;> omega)) _) | (with_reducible refine Below.alloc ?_ (by first | omega | (simp <;> omega)) _)))

set_option maxRecDepth 100000 in
set_option maxHeartbeats 1000000 in
theorem bounds_3 (w : World) : Calls Tryd.prog 25 #[.int .i64 3] w (BoundsPost 1 31 w) := by
  go_enter Tryd.func25, Tryd.ntmps25
  go_wp2_with fail
  have e0 : (w.alloc (.cells #[.int .u64 0, .int .u64 0, .map none] 49)).heap[w.heap.size]? = some (.cells #[.int .u64 0, .int .u64 0, .map none] 49) := heap_alloc_new w _
  have hw0 : Below w.heap.size w (w.alloc (.cells #[.int .u64 0, .int .u64 0, .map none] 49)) := (by repeat (first | (with_reducible assumption) | (with_reducible exact Below.refl _ _) | (with_reducible refine below_drewN ?_ _) | (with_reducible refine Below.drew ?_) | (with_reducible refine Below.setCell ?_ (by first | omega | (simp <;> omega)) _) | (with_reducible refine Below.alloc ?_ (by first | omega | (simp <;> omega)) _)))
  refine (dom_any _).mono ?_
  rintro e w' ⟨M, rfl, hb⟩
  have c0 : w'.heap[w.heap.size]? = some (.cells #[.int .u64 0, .int .u64 0, .map none] 49) := (hb.block _ (by simp)).trans e0
  have bk : Below w.heap.size w w' := hw0.trans (hb.mono hw0.size)
  have nk : w.heap.size ≤ w'.heap.size := bk.size
  clear e0 hw0 hb
  have k0 : w'.cell? ⟨w.heap.size, 0, none⟩ = some (.int .u64 0) := cell_of_row _ _ 0 _ _ (0, 0) c0
  have f0 : w'.frozen? ⟨w.heap.size, 0, none⟩ = false := by simp [World.frozen?, c0]
  have k1 : w'.cell? ⟨w.heap.size, 1, none⟩ = some (.int .u64 0) := cell_of_row _ _ 1 _ _ (0, 0) c0
  have f1 : w'.frozen? ⟨w.heap.size, 1, none⟩ = false := by simp [World.frozen?, c0]
  have k2 : w'.cell? ⟨w.heap.size, 2, none⟩ = some (.map none) := cell_of_row _ _ 2 _ _ (0, 0) c0
  have f2 : w'.frozen? ⟨w.heap.size, 2, none⟩ = false := by simp [World.frozen?, c0]
  go_wp2_with fail
  refine bodyPost_ret (v := .agg #[.int .u64 1, .int .u64 31, .map M]) ?_ rfl ⟨_, rfl, ?_⟩
  · simp [results, Tryd.results25, go_sem, k0, k1, k2]
  · exact (by repeat (first | (with_reducible assumption) | (with_reducible exact Below.refl _ _) | (with_reducible refine below_drewN ?_ _) | (with_reducible refine Below.drew ?_) | (with_reducible refine Below.setCell ?_ (by first | omega | (simp <;> omega)) _) | (with_reducible refine Below.alloc ?_ (by first | omega | (simp <;> omega)) _)))

set_option maxRecDepth 100000 in
set_option maxHeartbeats 1000000 in
theorem bounds_4 (w : World) : Calls Tryd.prog 25 #[.int .i64 4] w (BoundsPost 1 12 w) := by
  go_enter Tryd.func25, Tryd.ntmps25
  go_wp2_with fail
  have e0 : (w.alloc (.cells #[.int .u64 0, .int .u64 0, .map none] 49)).heap[w.heap.size]? = some (.cells #[.int .u64 0, .int .u64 0, .map none] 49) := heap_alloc_new w _
  have hw0 : Below w.heap.size w (w.alloc (.cells #[.int .u64 0, .int .u64 0, .map none] 49)) := (by repeat (first | (with_reducible assumption) | (with_reducible exact Below.refl _ _) | (with_reducible refine below_drewN ?_ _) | (with_reducible refine Below.drew ?_) | (with_reducible refine Below.setCell ?_ (by first | omega | (simp <;> omega)) _) | (with_reducible refine Below.alloc ?_ (by first | omega | (simp <;> omega)) _)))
  refine (months_any _).mono ?_
  rintro e w' ⟨M, rfl, hb⟩
  have c0 : w'.heap[w.heap.size]? = some (.cells #[.int .u64 0, .int .u64 0, .map none] 49) := (hb.block _ (by simp)).trans e0
  have bk : Below w.heap.size w w' := hw0.trans (hb.mono hw0.size)
  have nk : w.heap.size ≤ w'.heap.size := bk.size
  clear e0 hw0 hb
  have k0 : w'.cell? ⟨w.heap.size, 0, none⟩ = some (.int .u64 0) := cell_of_row _ _ 0 _ _ (0, 0) c0
  have f0 : w'.frozen? ⟨w.heap.size, 0, none⟩ = false := by simp [World.frozen?, c0]
  have k1 : w'.cell? ⟨w.heap.size, 1, none⟩ = some (.int .u64 0) := cell_of_row _ _ 1 _ _ (0, 0) c0
  have f1 : w'.frozen? ⟨w.heap.size, 1, none⟩ = false := by simp [World.frozen?, c0]
  have k2 : w'.cell? ⟨w.heap.size, 2, none⟩ = some (.map none) := cell_of_row _ _ 2 _ _ (0, 0) c0
  have f2 : w'.frozen? ⟨w.heap.size, 2, none⟩ = false := by simp [World.frozen?, c0]
  go_wp2_with fail
  refine bodyPost_ret (v := .agg #[.int .u64 1, .int .u64 12, .map M]) ?_ rfl ⟨_, rfl, ?_⟩
  · simp [results, Tryd.results25, go_sem, k0, k1, k2]
  · exact (by repeat (first | (with_reducible assumption) | (with_reducible exact Below.refl _ _) | (with_reducible refine below_drewN ?_ _) | (with_reducible refine Below.drew ?_) | (with_reducible refine Below.setCell ?_ (by first | omega | (simp <;> omega)) _) | (with_reducible refine Below.alloc ?_ (by first | omega | (simp <;> omega)) _)))

set_option maxRecDepth 100000 in
set_option maxHeartbeats 1000000 in
theorem bounds_5 (w : World) : Calls Tryd.prog 25 #[.int .i64 5] w (BoundsPost 0 6 w) := by
  go_enter Tryd.func25, Tryd.ntmps25
  go_wp2_with fail
  have e0 : (w.alloc (.cells #[.int .u64 0, .int .u64 0, .map none] 49)).heap[w.heap.size]? = some (.cells #[.int .u64 0, .int .u64 0, .map none] 49) := heap_alloc_new w _
  have hw0 : Below w.heap.size w (w.alloc (.cells #[.int .u64 0, .int .u64 0, .map none] 49)) := (by repeat (first | (with_reducible assumption) | (with_reducible exact Below.refl _ _) | (with_reducible refine below_drewN ?_ _) | (with_reducible refine Below.drew ?_) | (with_reducible refine Below.setCell ?_ (by first | omega | (simp <;> omega)) _) | (with_reducible refine Below.alloc ?_ (by first | omega | (simp <;> omega)) _)))
  refine (dow_any _).mono ?_
  rintro e w' ⟨M, rfl, hb⟩
  have c0 : w'.heap[w.heap.size]? = some (.cells #[.int .u64 0, .int .u64 0, .map none] 49) := (hb.block _ (by simp)).trans e0
  have bk : Below w.heap.size w w' := hw0.trans (hb.mono hw0.size)
  have nk : w.heap.size ≤ w'.heap.size := bk.size
  clear e0 hw0 hb
  have k0 : w'.cell? ⟨w.heap.size, 0, none⟩ = some (.int .u64 0) := cell_of_row _ _ 0 _ _ (0, 0) c0
  have f0 : w'.frozen? ⟨w.heap.size, 0, none⟩ = false := by simp [World.frozen?, c0]
  have k1 : w'.cell? ⟨w.heap.size, 1, none⟩ = some (.int .u64 0) := cell_of_row _ _ 1 _ _ (0, 0) c0
  have f1 : w'.frozen? ⟨w.heap.size, 1, none⟩ = false := by simp [World.frozen?, c0]
  have k2 : w'.cell? ⟨w.heap.size, 2, none⟩ = some (.map none) := cell_of_row _ _ 2 _ _ (0, 0) c0
  have f2 : w'.frozen? ⟨w.heap.size, 2, none⟩ = false := by simp [World.frozen?, c0]
  go_wp2_with fail
  refine bodyPost_ret (v := .agg #[.int .u64 0, .int .u64 6, .map M]) ?_ rfl ⟨_, rfl, ?_⟩
  · simp [results, Tryd.results25, go_sem, k0, k1, k2]
  · exact (by repeat (first | (with_reducible assumption) | (with_reducible exact Below.refl _ _) | (with_reducible refine below_drewN ?_ _) | (with_reducible refine Below.drew ?_) | (with_reducible refine Below.setCell ?_ (by first | omega | (simp <;> omega)) _) | (with_reducible refine Below.alloc ?_ (by first | omega | (simp <;> omega)) _)))

end Go.Proofs.YtcbcmbkioibliaaDoor
