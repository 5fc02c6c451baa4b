/- impl.CronAll of days and months. -/
import Derived.Test.YtpgclepiagfgfaaWk
import Derived.Test.YtpgclepiagfgfaaPBits
import Derived.Maps.Own
import Derived.Maps.Keyed
import Derived.StringKeys
namespace Go.Proofs.Ytpgclepiagfgfaa
open Go.RowKit Go.Maps Go.WideMaps
set_option linter.unusedVariables false
set_option linter.unusedSimpArgs false

set_option maxHeartbeats 400000 in
theorem getBits_one (a b : Nat) (ha : a ≤ b) (hb : b ≤ 63) (w : World) :
    Calls Try.prog 71 #[.int .u64 a, .int .u64 b, .int .u64 1] w fun e w' => e = .returned (.int .u64 (GB a b 1 : Nat)) ∧ w = w' := by
  have H := Lib.hid (GB_one a b ha hb)
  go_enter Try.func71, Try.ntmps71
  go_wp2
  go_ret
  exact ⟨ret_u64 H.out, rfl⟩
set_option maxHeartbeats 400000 in
theorem getBits_many (a b s : Nat) (ha : a ≤ b) (hb : b ≤ 63) (h1 : 1 < s) (h2 : s ≤ 4294967296) (w : World) :
    Calls Try.prog 71 #[.int .u64 a, .int .u64 b, .int .u64 s] w fun e w' => e = .returned (.int .u64 (GB a b s : Nat)) ∧ w = w' := by
  have hs : ((s : Int) == 1) = false := by simp; omega
  go_enter Try.func71, Try.ntmps71
  go_wp2
  go_loop [7, 8] (fun t i => ∃ n : Nat, a ≤ n ∧ n ≤ 4294967296 + 63 ∧ (n - a) % s = 0 ∧ i = .int .u64 n ∧ t = .int .u64 (upTo a b s n : Nat)) (fun _ i => 4294967296 + 64 - (intOf i).toNat)
  case atStart => exact ⟨a, Nat.le_refl _, by omega, by simp, rfl, by rw [upTo_start]; rfl⟩
  case round =>
    obtain ⟨n, han, hn, hm, rfl, rfl⟩ := hrel
    by_cases hlt : n ≤ b
    · have H := Lib.hid (upTo_step a b s n (by omega) han hlt hb hm)
      have HM := Lib.hid (step_mod a s n han hm)
      clear hm
      go_wp2
      go_round
      case rel => exact ⟨n + s, by omega, by omega, HM.out, by go_num, by rw [H.out]⟩
      case measure => simp [intOf]; omega
    · have H := Lib.hid (upTo_end a b s n (by omega))
      clear hm
      go_wp2
      go_ret
      exact ⟨by rw [← H.out]; rfl, rfl⟩
theorem getBits_any (a b s : Nat) (ha : a ≤ b) (hb : b ≤ 63) (h1 : 1 ≤ s) (h2 : s ≤ 4294967296) (w : World) :
    Calls Try.prog 71 #[.int .u64 a, .int .u64 b, .int .u64 s] w fun e w' => e = .returned (.int .u64 (GB a b s : Nat)) ∧ w = w' := by
  by_cases h : s = 1
  · subst h; exact getBits_one a b ha hb w
  · exact getBits_many a b s ha hb (by omega) h2 w
/-- A call hands back bounds, whatever the names. -/
def BoundsPost (low high : Nat) (w : World) (e : Ending) (w' : World) : Prop := ∃ M : Option Nat, e = .returned (.agg #[.int .u64 low, .int .u64 high, .map M]) ∧ Below w.heap.size w w'
theorem lawStr : Keyed Try.prog 9 := string_keyed Try.underlying9
set_option maxRecDepth 100000 in
set_option maxHeartbeats 4000000 in
theorem months_any (w : World) : Calls Try.prog 76 #[] w (BoundsPost 1 12 w) := by
  have hmm := @run_makeMap Try.prog
  go_enter Try.func76, Try.ntmps76
  go_wp2_with fail
  have hown0 : ((w.alloc (.cells #[.int .u64 0, .int .u64 0, .map none] 105)).alloc (.map #[] 0)).ownsMap (H := Unit) Try.prog 9 (plainElem Try.prog 102) (w.heap.size + 1) 0 (.map []) := by
    have := World.ownsMap_made (H := Unit) (w.alloc (.cells #[.int .u64 0, .int .u64 0, .map none] 105)) Try.prog 9 (plainElem Try.prog 102)
    simpa using this
  have c0 : ((w.alloc (.cells #[.int .u64 0, .int .u64 0, .map none] 105)).alloc (.map #[] 0)).heap[w.heap.size]? = some (.cells #[.int .u64 0, .int .u64 0, .map none] 105) := by
    rw [Below.heap_alloc _ _ _ (by simp)]; exact heap_alloc_new w _
  have bk : Below w.heap.size w ((w.alloc (.cells #[.int .u64 0, .int .u64 0, .map none] 105)).alloc (.map #[] 0)) := (by repeat (first | (with_reducible assumption) | (with_reducible exact Below.refl _ _) | (with_reducible refine below_drewN ?_ _) | (with_reducible refine Below.drew ?_) | (with_reducible refine Below.setCell ?_ (by first | omega | (simp <;> omega)) _) | (with_reducible refine Below.alloc ?_ (by first | omega | (simp <;> omega)) _)))
  generalize (w.alloc (.cells #[.int .u64 0, .int .u64 0, .map none] 105)).alloc (.map #[] 0) = W0 at *
  obtain ⟨W1, r1, hown1, hg1⟩ := hown0.update lawStr Try.underlying103 (by unfold maxLen; omega) (key := .string ⟨#[106, 97, 110]⟩) (val := .int .u64 1) (keyOf_string_mk Try.underlying9 (by decide)) (plainElem_int Try.underlying102 (by decide))
  replace c0 : W1.heap[w.heap.size]? = some (.cells #[.int .u64 0, .int .u64 0, .map none] 105) := (hg1.block _ (Array.getElem?_eq_some_iff.1 c0).1 (by intro h; injection h with h; omega)).trans c0
  replace bk : Below w.heap.size w W1 := Below.grown bk hg1 bk.size (fun k hk => by cases hk; omega)
  obtain ⟨W2, r2, hown2, hg2⟩ := hown1.update lawStr Try.underlying103 (by unfold maxLen; omega) (key := .string ⟨#[102, 101, 98]⟩) (val := .int .u64 2) (keyOf_string_mk Try.underlying9 (by decide)) (plainElem_int Try.underlying102 (by decide))
  replace c0 : W2.heap[w.heap.size]? = some (.cells #[.int .u64 0, .int .u64 0, .map none] 105) := (hg2.block _ (Array.getElem?_eq_some_iff.1 c0).1 (by intro h; injection h with h; omega)).trans c0
  replace bk : Below w.heap.size w W2 := Below.grown bk hg2 bk.size (fun k hk => by cases hk; omega)
  obtain ⟨W3, r3, hown3, hg3⟩ := hown2.update lawStr Try.underlying103 (by unfold maxLen; omega) (key := .string ⟨#[109, 97, 114]⟩) (val := .int .u64 3) (keyOf_string_mk Try.underlying9 (by decide)) (plainElem_int Try.underlying102 (by decide))
  replace c0 : W3.heap[w.heap.size]? = some (.cells #[.int .u64 0, .int .u64 0, .map none] 105) := (hg3.block _ (Array.getElem?_eq_some_iff.1 c0).1 (by intro h; injection h with h; omega)).trans c0
  replace bk : Below w.heap.size w W3 := Below.grown bk hg3 bk.size (fun k hk => by cases hk; omega)
  obtain ⟨W4, r4, hown4, hg4⟩ := hown3.update lawStr Try.underlying103 (by unfold maxLen; omega) (key := .string ⟨#[97, 112, 114]⟩) (val := .int .u64 4) (keyOf_string_mk Try.underlying9 (by decide)) (plainElem_int Try.underlying102 (by decide))
  replace c0 : W4.heap[w.heap.size]? = some (.cells #[.int .u64 0, .int .u64 0, .map none] 105) := (hg4.block _ (Array.getElem?_eq_some_iff.1 c0).1 (by intro h; injection h with h; omega)).trans c0
  replace bk : Below w.heap.size w W4 := Below.grown bk hg4 bk.size (fun k hk => by cases hk; omega)
  obtain ⟨W5, r5, hown5, hg5⟩ := hown4.update lawStr Try.underlying103 (by unfold maxLen; omega) (key := .string ⟨#[109, 97, 121]⟩) (val := .int .u64 5) (keyOf_string_mk Try.underlying9 (by decide)) (plainElem_int Try.underlying102 (by decide))
  replace c0 : W5.heap[w.heap.size]? = some (.cells #[.int .u64 0, .int .u64 0, .map none] 105) := (hg5.block _ (Array.getElem?_eq_some_iff.1 c0).1 (by intro h; injection h with h; omega)).trans c0
  replace bk : Below w.heap.size w W5 := Below.grown bk hg5 bk.size (fun k hk => by cases hk; omega)
  obtain ⟨W6, r6, hown6, hg6⟩ := hown5.update lawStr Try.underlying103 (by unfold maxLen; omega) (key := .string ⟨#[106, 117, 110]⟩) (val := .int .u64 6) (keyOf_string_mk Try.underlying9 (by decide)) (plainElem_int Try.underlying102 (by decide))
  replace c0 : W6.heap[w.heap.size]? = some (.cells #[.int .u64 0, .int .u64 0, .map none] 105) := (hg6.block _ (Array.getElem?_eq_some_iff.1 c0).1 (by intro h; injection h with h; omega)).trans c0
  replace bk : Below w.heap.size w W6 := Below.grown bk hg6 bk.size (fun k hk => by cases hk; omega)
  obtain ⟨W7, r7, hown7, hg7⟩ := hown6.update lawStr Try.underlying103 (by unfold maxLen; omega) (key := .string ⟨#[106, 117, 108]⟩) (val := .int .u64 7) (keyOf_string_mk Try.underlying9 (by decide)) (plainElem_int Try.underlying102 (by decide))
  replace c0 : W7.heap[w.heap.size]? = some (.cells #[.int .u64 0, .int .u64 0, .map none] 105) := (hg7.block _ (Array.getElem?_eq_some_iff.1 c0).1 (by intro h; injection h with h; omega)).trans c0
  replace bk : Below w.heap.size w W7 := Below.grown bk hg7 bk.size (fun k hk => by cases hk; omega)
  obtain ⟨W8, r8, hown8, hg8⟩ := hown7.update lawStr Try.underlying103 (by unfold maxLen; omega) (key := .string ⟨#[97, 117, 103]⟩) (val := .int .u64 8) (keyOf_string_mk Try.underlying9 (by decide)) (plainElem_int Try.underlying102 (by decide))
  replace c0 : W8.heap[w.heap.size]? = some (.cells #[.int .u64 0, .int .u64 0, .map none] 105) := (hg8.block _ (Array.getElem?_eq_some_iff.1 c0).1 (by intro h; injection h with h; omega)).trans c0
  replace bk : Below w.heap.size w W8 := Below.grown bk hg8 bk.size (fun k hk => by cases hk; omega)
  obtain ⟨W9, r9, hown9, hg9⟩ := hown8.update lawStr Try.underlying103 (by unfold maxLen; omega) (key := .string ⟨#[115, 101, 112]⟩) (val := .int .u64 9) (keyOf_string_mk Try.underlying9 (by decide)) (plainElem_int Try.underlying102 (by decide))
  replace c0 : W9.heap[w.heap.size]? = some (.cells #[.int .u64 0, .int .u64 0, .map none] 105) := (hg9.block _ (Array.getElem?_eq_some_iff.1 c0).1 (by intro h; injection h with h; omega)).trans c0
  replace bk : Below w.heap.size w W9 := Below.grown bk hg9 bk.size (fun k hk => by cases hk; omega)
  obtain ⟨W10, r10, hown10, hg10⟩ := hown9.update lawStr Try.underlying103 (by unfold maxLen; omega) (key := .string ⟨#[111, 99, 116]⟩) (val := .int .u64 10) (keyOf_string_mk Try.underlying9 (by decide)) (plainElem_int Try.underlying102 (by decide))
  replace c0 : W10.heap[w.heap.size]? = some (.cells #[.int .u64 0, .int .u64 0, .map none] 105) := (hg10.block _ (Array.getElem?_eq_some_iff.1 c0).1 (by intro h; injection h with h; omega)).trans c0
  replace bk : Below w.heap.size w W10 := Below.grown bk hg10 bk.size (fun k hk => by cases hk; omega)
  obtain ⟨W11, r11, hown11, hg11⟩ := hown10.update lawStr Try.underlying103 (by unfold maxLen; omega) (key := .string ⟨#[110, 111, 118]⟩) (val := .int .u64 11) (keyOf_string_mk Try.underlying9 (by decide)) (plainElem_int Try.underlying102 (by decide))
  replace c0 : W11.heap[w.heap.size]? = some (.cells #[.int .u64 0, .int .u64 0, .map none] 105) := (hg11.block _ (Array.getElem?_eq_some_iff.1 c0).1 (by intro h; injection h with h; omega)).trans c0
  replace bk : Below w.heap.size w W11 := Below.grown bk hg11 bk.size (fun k hk => by cases hk; omega)
  obtain ⟨W12, r12, hown12, hg12⟩ := hown11.update lawStr Try.underlying103 (by unfold maxLen; omega) (key := .string ⟨#[100, 101, 99]⟩) (val := .int .u64 12) (keyOf_string_mk Try.underlying9 (by decide)) (plainElem_int Try.underlying102 (by decide))
  replace c0 : W12.heap[w.heap.size]? = some (.cells #[.int .u64 0, .int .u64 0, .map none] 105) := (hg12.block _ (Array.getElem?_eq_some_iff.1 c0).1 (by intro h; injection h with h; omega)).trans c0
  replace bk : Below w.heap.size w W12 := Below.grown bk hg12 bk.size (fun k hk => by cases hk; omega)
  have k0 : W12.cell? ⟨w.heap.size, 0, none⟩ = some (.int .u64 0) := cell_of_row _ _ 0 _ _ (0, 0) c0
  have f0 : W12.frozen? ⟨w.heap.size, 0, none⟩ = false := by simp [World.frozen?, c0]
  have k1 : W12.cell? ⟨w.heap.size, 1, none⟩ = some (.int .u64 0) := cell_of_row _ _ 1 _ _ (0, 0) c0
  have f1 : W12.frozen? ⟨w.heap.size, 1, none⟩ = false := by simp [World.frozen?, c0]
  have k2 : W12.cell? ⟨w.heap.size, 2, none⟩ = some (.map none) := cell_of_row _ _ 2 _ _ (0, 0) c0
  have f2 : W12.frozen? ⟨w.heap.size, 2, none⟩ = false := by simp [World.frozen?, c0]
  have nk : w.heap.size ≤ W12.heap.size := bk.size
  go_wp2_with fail
  refine bodyPost_ret (v := .agg #[.int .u64 1, .int .u64 12, .map (some (w.heap.size + 1))]) ?_ rfl ⟨_, rfl, ?_⟩
  · simp [results, Try.results76, go_sem, k0, k1, k2]
  · exact (by repeat (first | (with_reducible assumption) | (with_reducible exact Below.refl _ _) | (with_reducible refine below_drewN ?_ _) | (with_reducible refine Below.drew ?_) | (with_reducible refine Below.setCell ?_ (by first | omega | (simp <;> omega)) _) | (with_reducible refine Below.alloc ?_ (by first | omega | (simp <;> omega)) _)))
set_option maxRecDepth 100000 in
set_option maxHeartbeats 4000000 in
theorem dow_any (w : World) : Calls Try.prog 77 #[] w (BoundsPost 0 6 w) := by
  have hmm := @run_makeMap Try.prog
  go_enter Try.func77, Try.ntmps77
  go_wp2_with fail
  have hown0 : ((w.alloc (.cells #[.int .u64 0, .int .u64 0, .map none] 105)).alloc (.map #[] 0)).ownsMap (H := Unit) Try.prog 9 (plainElem Try.prog 102) (w.heap.size + 1) 0 (.map []) := by
    have := World.ownsMap_made (H := Unit) (w.alloc (.cells #[.int .u64 0, .int .u64 0, .map none] 105)) Try.prog 9 (plainElem Try.prog 102)
    simpa using this
  have c0 : ((w.alloc (.cells #[.int .u64 0, .int .u64 0, .map none] 105)).alloc (.map #[] 0)).heap[w.heap.size]? = some (.cells #[.int .u64 0, .int .u64 0, .map none] 105) := by
    rw [Below.heap_alloc _ _ _ (by simp)]; exact heap_alloc_new w _
  have bk : Below w.heap.size w ((w.alloc (.cells #[.int .u64 0, .int .u64 0, .map none] 105)).alloc (.map #[] 0)) := (by repeat (first | (with_reducible assumption) | (with_reducible exact Below.refl _ _) | (with_reducible refine below_drewN ?_ _) | (with_reducible refine Below.drew ?_) | (with_reducible refine Below.setCell ?_ (by first | omega | (simp <;> omega)) _) | (with_reducible refine Below.alloc ?_ (by first | omega | (simp <;> omega)) _)))
  generalize (w.alloc (.cells #[.int .u64 0, .int .u64 0, .map none] 105)).alloc (.map #[] 0) = W0 at *
  obtain ⟨W1, r1, hown1, hg1⟩ := hown0.update lawStr Try.underlying103 (by unfold maxLen; omega) (key := .string ⟨#[115, 117, 110]⟩) (val := .int .u64 0) (keyOf_string_mk Try.underlying9 (by decide)) (plainElem_int Try.underlying102 (by decide))
  replace c0 : W1.heap[w.heap.size]? = some (.cells #[.int .u64 0, .int .u64 0, .map none] 105) := (hg1.block _ (Array.getElem?_eq_some_iff.1 c0).1 (by intro h; injection h with h; omega)).trans c0
  replace bk : Below w.heap.size w W1 := Below.grown bk hg1 bk.size (fun k hk => by cases hk; omega)
  obtain ⟨W2, r2, hown2, hg2⟩ := hown1.update lawStr Try.underlying103 (by unfold maxLen; omega) (key := .string ⟨#[109, 111, 110]⟩) (val := .int .u64 1) (keyOf_string_mk Try.underlying9 (by decide)) (plainElem_int Try.underlying102 (by decide))
  replace c0 : W2.heap[w.heap.size]? = some (.cells #[.int .u64 0, .int .u64 0, .map none] 105) := (hg2.block _ (Array.getElem?_eq_some_iff.1 c0).1 (by intro h; injection h with h; omega)).trans c0
  replace bk : Below w.heap.size w W2 := Below.grown bk hg2 bk.size (fun k hk => by cases hk; omega)
  obtain ⟨W3, r3, hown3, hg3⟩ := hown2.update lawStr Try.underlying103 (by unfold maxLen; omega) (key := .string ⟨#[116, 117, 101]⟩) (val := .int .u64 2) (keyOf_string_mk Try.underlying9 (by decide)) (plainElem_int Try.underlying102 (by decide))
  replace c0 : W3.heap[w.heap.size]? = some (.cells #[.int .u64 0, .int .u64 0, .map none] 105) := (hg3.block _ (Array.getElem?_eq_some_iff.1 c0).1 (by intro h; injection h with h; omega)).trans c0
  replace bk : Below w.heap.size w W3 := Below.grown bk hg3 bk.size (fun k hk => by cases hk; omega)
  obtain ⟨W4, r4, hown4, hg4⟩ := hown3.update lawStr Try.underlying103 (by unfold maxLen; omega) (key := .string ⟨#[119, 101, 100]⟩) (val := .int .u64 3) (keyOf_string_mk Try.underlying9 (by decide)) (plainElem_int Try.underlying102 (by decide))
  replace c0 : W4.heap[w.heap.size]? = some (.cells #[.int .u64 0, .int .u64 0, .map none] 105) := (hg4.block _ (Array.getElem?_eq_some_iff.1 c0).1 (by intro h; injection h with h; omega)).trans c0
  replace bk : Below w.heap.size w W4 := Below.grown bk hg4 bk.size (fun k hk => by cases hk; omega)
  obtain ⟨W5, r5, hown5, hg5⟩ := hown4.update lawStr Try.underlying103 (by unfold maxLen; omega) (key := .string ⟨#[116, 104, 117]⟩) (val := .int .u64 4) (keyOf_string_mk Try.underlying9 (by decide)) (plainElem_int Try.underlying102 (by decide))
  replace c0 : W5.heap[w.heap.size]? = some (.cells #[.int .u64 0, .int .u64 0, .map none] 105) := (hg5.block _ (Array.getElem?_eq_some_iff.1 c0).1 (by intro h; injection h with h; omega)).trans c0
  replace bk : Below w.heap.size w W5 := Below.grown bk hg5 bk.size (fun k hk => by cases hk; omega)
  obtain ⟨W6, r6, hown6, hg6⟩ := hown5.update lawStr Try.underlying103 (by unfold maxLen; omega) (key := .string ⟨#[102, 114, 105]⟩) (val := .int .u64 5) (keyOf_string_mk Try.underlying9 (by decide)) (plainElem_int Try.underlying102 (by decide))
  replace c0 : W6.heap[w.heap.size]? = some (.cells #[.int .u64 0, .int .u64 0, .map none] 105) := (hg6.block _ (Array.getElem?_eq_some_iff.1 c0).1 (by intro h; injection h with h; omega)).trans c0
  replace bk : Below w.heap.size w W6 := Below.grown bk hg6 bk.size (fun k hk => by cases hk; omega)
  obtain ⟨W7, r7, hown7, hg7⟩ := hown6.update lawStr Try.underlying103 (by unfold maxLen; omega) (key := .string ⟨#[115, 97, 116]⟩) (val := .int .u64 6) (keyOf_string_mk Try.underlying9 (by decide)) (plainElem_int Try.underlying102 (by decide))
  replace c0 : W7.heap[w.heap.size]? = some (.cells #[.int .u64 0, .int .u64 0, .map none] 105) := (hg7.block _ (Array.getElem?_eq_some_iff.1 c0).1 (by intro h; injection h with h; omega)).trans c0
  replace bk : Below w.heap.size w W7 := Below.grown bk hg7 bk.size (fun k hk => by cases hk; omega)
  have k0 : W7.cell? ⟨w.heap.size, 0, none⟩ = some (.int .u64 0) := cell_of_row _ _ 0 _ _ (0, 0) c0
  have f0 : W7.frozen? ⟨w.heap.size, 0, none⟩ = false := by simp [World.frozen?, c0]
  have k1 : W7.cell? ⟨w.heap.size, 1, none⟩ = some (.int .u64 0) := cell_of_row _ _ 1 _ _ (0, 0) c0
  have f1 : W7.frozen? ⟨w.heap.size, 1, none⟩ = false := by simp [World.frozen?, c0]
  have k2 : W7.cell? ⟨w.heap.size, 2, none⟩ = some (.map none) := cell_of_row _ _ 2 _ _ (0, 0) c0
  have f2 : W7.frozen? ⟨w.heap.size, 2, none⟩ = false := by simp [World.frozen?, c0]
  have nk : w.heap.size ≤ W7.heap.size := bk.size
  go_wp2_with fail
  refine bodyPost_ret (v := .agg #[.int .u64 0, .int .u64 6, .map (some (w.heap.size + 1))]) ?_ rfl ⟨_, rfl, ?_⟩
  · simp [results, Try.results77, go_sem, k0, k1, k2]
  · exact (by repeat (first | (with_reducible assumption) | (with_reducible exact Below.refl _ _) | (with_reducible refine below_drewN ?_ _) | (with_reducible refine Below.drew ?_) | (with_reducible refine Below.setCell ?_ (by first | omega | (simp <;> omega)) _) | (with_reducible refine Below.alloc ?_ (by first | omega | (simp <;> omega)) _)))
set_option maxRecDepth 100000 in
set_option maxHeartbeats 1000000 in
theorem dom_any (w : World) : Calls Try.prog 75 #[] w (BoundsPost 1 31 w) := by
  go_enter Try.func75, Try.ntmps75
  go_wp2_with fail
  refine bodyPost_ret (v := .agg #[.int .u64 1, .int .u64 31, .map none]) (by simp [results, Try.results75, go_sem]) rfl ⟨_, rfl, ?_⟩
  exact (by repeat (first | (with_reducible assumption) | (with_reducible exact Below.refl _ _) | (with_reducible refine below_drewN ?_ _) | (with_reducible refine Below.drew ?_) | (with_reducible refine Below.setCell ?_ (by first | omega | (simp <;> omega)) _) | (with_reducible refine Below.alloc ?_ (by first | omega | (simp <;> omega)) _)))
set_option maxRecDepth 100000 in
set_option maxHeartbeats 1000000 in
theorem bounds_3 (w : World) : Calls Try.prog 57 #[.int .i64 3] w (BoundsPost 1 31 w) := by
  go_enter Try.func57, Try.ntmps57
  go_wp2_with fail
  have e0 : (w.alloc (.cells #[.int .u64 0, .int .u64 0, .map none] 105)).heap[w.heap.size]? = some (.cells #[.int .u64 0, .int .u64 0, .map none] 105) := heap_alloc_new w _
  have hw0 : Below w.heap.size w (w.alloc (.cells #[.int .u64 0, .int .u64 0, .map none] 105)) := (by repeat (first | (with_reducible assumption) | (with_reducible exact Below.refl _ _) | (with_reducible refine below_drewN ?_ _) | (with_reducible refine Below.drew ?_) | (with_reducible refine Below.setCell ?_ (by first | omega | (simp <;> omega)) _) | (with_reducible refine Below.alloc ?_ (by first | omega | (simp <;> omega)) _)))
  refine (dom_any _).mono ?_
  rintro e w' ⟨M, rfl, hb⟩
  have c0 : w'.heap[w.heap.size]? = some (.cells #[.int .u64 0, .int .u64 0, .map none] 105) := (hb.block _ (by simp)).trans e0
  have bk : Below w.heap.size w w' := hw0.trans (hb.mono hw0.size)
  have nk : w.heap.size ≤ w'.heap.size := bk.size
  clear e0 hw0 hb
  have k0 : w'.cell? ⟨w.heap.size, 0, none⟩ = some (.int .u64 0) := cell_of_row _ _ 0 _ _ (0, 0) c0
  have f0 : w'.frozen? ⟨w.heap.size, 0, none⟩ = false := by simp [World.frozen?, c0]
  have k1 : w'.cell? ⟨w.heap.size, 1, none⟩ = some (.int .u64 0) := cell_of_row _ _ 1 _ _ (0, 0) c0
  have f1 : w'.frozen? ⟨w.heap.size, 1, none⟩ = false := by simp [World.frozen?, c0]
  have k2 : w'.cell? ⟨w.heap.size, 2, none⟩ = some (.map none) := cell_of_row _ _ 2 _ _ (0, 0) c0
  have f2 : w'.frozen? ⟨w.heap.size, 2, none⟩ = false := by simp [World.frozen?, c0]
  go_wp2_with fail
  refine bodyPost_ret (v := .agg #[.int .u64 1, .int .u64 31, .map M]) ?_ rfl ⟨_, rfl, ?_⟩
  · simp [results, Try.results57, go_sem, k0, k1, k2]
  · exact (by repeat (first | (with_reducible assumption) | (with_reducible exact Below.refl _ _) | (with_reducible refine below_drewN ?_ _) | (with_reducible refine Below.drew ?_) | (with_reducible refine Below.setCell ?_ (by first | omega | (simp <;> omega)) _) | (with_reducible refine Below.alloc ?_ (by first | omega | (simp <;> omega)) _)))
set_option maxRecDepth 100000 in
set_option maxHeartbeats 1000000 in
theorem bounds_4 (w : World) : Calls Try.prog 57 #[.int .i64 4] w (BoundsPost 1 12 w) := by
  go_enter Try.func57, Try.ntmps57
  go_wp2_with fail
  have e0 : (w.alloc (.cells #[.int .u64 0, .int .u64 0, .map none] 105)).heap[w.heap.size]? = some (.cells #[.int .u64 0, .int .u64 0, .map none] 105) := heap_alloc_new w _
  have hw0 : Below w.heap.size w (w.alloc (.cells #[.int .u64 0, .int .u64 0, .map none] 105)) := (by repeat (first | (with_reducible assumption) | (with_reducible exact Below.refl _ _) | (with_reducible refine below_drewN ?_ _) | (with_reducible refine Below.drew ?_) | (with_reducible refine Below.setCell ?_ (by first | omega | (simp <;> omega)) _) | (with_reducible refine Below.alloc ?_ (by first | omega | (simp <;> omega)) _)))
  refine (months_any _).mono ?_
  rintro e w' ⟨M, rfl, hb⟩
  have c0 : w'.heap[w.heap.size]? = some (.cells #[.int .u64 0, .int .u64 0, .map none] 105) := (hb.block _ (by simp)).trans e0
  have bk : Below w.heap.size w w' := hw0.trans (hb.mono hw0.size)
  have nk : w.heap.size ≤ w'.heap.size := bk.size
  clear e0 hw0 hb
  have k0 : w'.cell? ⟨w.heap.size, 0, none⟩ = some (.int .u64 0) := cell_of_row _ _ 0 _ _ (0, 0) c0
  have f0 : w'.frozen? ⟨w.heap.size, 0, none⟩ = false := by simp [World.frozen?, c0]
  have k1 : w'.cell? ⟨w.heap.size, 1, none⟩ = some (.int .u64 0) := cell_of_row _ _ 1 _ _ (0, 0) c0
  have f1 : w'.frozen? ⟨w.heap.size, 1, none⟩ = false := by simp [World.frozen?, c0]
  have k2 : w'.cell? ⟨w.heap.size, 2, none⟩ = some (.map none) := cell_of_row _ _ 2 _ _ (0, 0) c0
  have f2 : w'.frozen? ⟨w.heap.size, 2, none⟩ = false := by simp [World.frozen?, c0]
  go_wp2_with fail
  refine bodyPost_ret (v := .agg #[.int .u64 1, .int .u64 12, .map M]) ?_ rfl ⟨_, rfl, ?_⟩
  · simp [results, Try.results57, go_sem, k0, k1, k2]
  · exact (by repeat (first | (with_reducible assumption) | (with_reducible exact Below.refl _ _) | (with_reducible refine below_drewN ?_ _) | (with_reducible refine Below.drew ?_) | (with_reducible refine Below.setCell ?_ (by first | omega | (simp <;> omega)) _) | (with_reducible refine Below.alloc ?_ (by first | omega | (simp <;> omega)) _)))
set_option maxRecDepth 100000 in
set_option maxHeartbeats 1000000 in
theorem bounds_5 (w : World) : Calls Try.prog 57 #[.int .i64 5] w (BoundsPost 0 6 w) := by
  go_enter Try.func57, Try.ntmps57
  go_wp2_with fail
  have e0 : (w.alloc (.cells #[.int .u64 0, .int .u64 0, .map none] 105)).heap[w.heap.size]? = some (.cells #[.int .u64 0, .int .u64 0, .map none] 105) := heap_alloc_new w _
  have hw0 : Below w.heap.size w (w.alloc (.cells #[.int .u64 0, .int .u64 0, .map none] 105)) := (by repeat (first | (with_reducible assumption) | (with_reducible exact Below.refl _ _) | (with_reducible refine below_drewN ?_ _) | (with_reducible refine Below.drew ?_) | (with_reducible refine Below.setCell ?_ (by first | omega | (simp <;> omega)) _) | (with_reducible refine Below.alloc ?_ (by first | omega | (simp <;> omega)) _)))
  refine (dow_any _).mono ?_
  rintro e w' ⟨M, rfl, hb⟩
  have c0 : w'.heap[w.heap.size]? = some (.cells #[.int .u64 0, .int .u64 0, .map none] 105) := (hb.block _ (by simp)).trans e0
  have bk : Below w.heap.size w w' := hw0.trans (hb.mono hw0.size)
  have nk : w.heap.size ≤ w'.heap.size := bk.size
  clear e0 hw0 hb
  have k0 : w'.cell? ⟨w.heap.size, 0, none⟩ = some (.int .u64 0) := cell_of_row _ _ 0 _ _ (0, 0) c0
  have f0 : w'.frozen? ⟨w.heap.size, 0, none⟩ = false := by simp [World.frozen?, c0]
  have k1 : w'.cell? ⟨w.heap.size, 1, none⟩ = some (.int .u64 0) := cell_of_row _ _ 1 _ _ (0, 0) c0
  have f1 : w'.frozen? ⟨w.heap.size, 1, none⟩ = false := by simp [World.frozen?, c0]
  have k2 : w'.cell? ⟨w.heap.size, 2, none⟩ = some (.map none) := cell_of_row _ _ 2 _ _ (0, 0) c0
  have f2 : w'.frozen? ⟨w.heap.size, 2, none⟩ = false := by simp [World.frozen?, c0]
  go_wp2_with fail
  refine bodyPost_ret (v := .agg #[.int .u64 0, .int .u64 6, .map M]) ?_ rfl ⟨_, rfl, ?_⟩
  · simp [results, Try.results57, go_sem, k0, k1, k2]
  · exact (by repeat (first | (with_reducible assumption) | (with_reducible exact Below.refl _ _) | (with_reducible refine below_drewN ?_ _) | (with_reducible refine Below.drew ?_) | (with_reducible refine Below.setCell ?_ (by first | omega | (simp <;> omega)) _) | (with_reducible refine Below.alloc ?_ (by first | omega | (simp <;> omega)) _)))
/-- The set of a star. -/
def starV (low high : Nat) : Nat := GB low high 1 ||| 9223372036854775808
theorem or_star (v : Nat) (h : v < 18446744073709551616) : bits .or .u64 (v : Int) 9223372036854775808 = ((v ||| 9223372036854775808 : Nat) : Int) := by
  have := u64_or_nat v 9223372036854775808 h (by decide)
  simpa using this
def BoundsAre (k : Int) (low high : Nat) : Prop := ∀ W : World, Calls Try.prog 57 #[.int .i64 k] W (BoundsPost low high W)
def AllIs (k : Int) (v : Nat) : Prop := ∀ W : World, Calls Try.prog 14 #[.int .i64 k] W fun e w' => e = .returned (.int .u64 v) ∧ Below W.heap.size W w'
set_option maxHeartbeats 1000000 in
theorem all_any (low high : Nat) (hl : low ≤ high) (hh : high ≤ 62) (M : Option Nat) (w : World) :
    Calls Try.prog 56 #[.agg #[.int .u64 low, .int .u64 high, .map M]] w fun e w' => e = .returned (.int .u64 (starV low high : Nat)) ∧ Below w.heap.size w w' := by
  go_enter Try.func56, Try.ntmps56
  go_wp2_with fail
  refine (getBits_one low high hl (by omega) _).mono ?_
  rintro e w1 ⟨rfl, rfl⟩
  go_wp2_with fail
  refine bodyPost_ret (v := .int .u64 (starV low high : Nat)) (by simp [results, Try.results56, go_sem, starV, or_star _ (GB_lt _ _ _)]) rfl ⟨rfl, ?_⟩
  exact (by repeat (first | (with_reducible assumption) | (with_reducible exact Below.refl _ _) | (with_reducible refine below_drewN ?_ _) | (with_reducible refine Below.drew ?_) | (with_reducible refine Below.alloc ?_ (by first | omega | (simp <;> omega)) _)))
theorem zzAll_any (k : Int) (low high : Nat) (hl : low ≤ high) (hh : high ≤ 62) (HB : Hid (BoundsAre k low high)) (w : World) :
    Calls Try.prog 36 #[.int .i64 k] w fun e w' => e = .returned (.int .u64 (starV low high : Nat)) ∧ Below w.heap.size w w' := by
  go_enter Try.func36, Try.ntmps36
  go_wp2_with fail
  refine (HB.out _).mono ?_
  rintro e w1 ⟨M, rfl, hb⟩
  go_wp2_with fail
  refine (all_any low high hl hh M _).mono ?_
  rintro e w2 ⟨rfl, hb2⟩
  go_wp2_with fail
  go_ret
  exact ⟨rfl, hb.trans (hb2.mono hb.size)⟩
theorem cronAll_any (k : Int) (low high : Nat) (hl : low ≤ high) (hh : high ≤ 62) (h0 : 0 ≤ k) (h5 : k ≤ 5) (HB : Hid (BoundsAre k low high)) : AllIs k (starV low high) := by
  intro W
  have i1 : (k < 0) = False := by simp; omega
  have i2 : (5 < k) = False := by simp; omega
  clear h0 h5
  go_enter Try.func14, Try.ntmps14
  go_wp2_with fail
  refine (zzAll_any k low high hl hh HB _).mono ?_
  rintro e w1 ⟨rfl, hb⟩
  go_wp2_with fail
  go_ret
  exact ⟨rfl, hb⟩
theorem all_3 : AllIs 3 (starV 1 31) := cronAll_any 3 1 31 (by decide) (by decide) (by decide) (by decide) (Lib.hid bounds_3)
theorem all_4 : AllIs 4 (starV 1 12) := cronAll_any 4 1 12 (by decide) (by decide) (by decide) (by decide) (Lib.hid bounds_4)
theorem all_5 : AllIs 5 (starV 0 6) := cronAll_any 5 0 6 (by decide) (by decide) (by decide) (by decide) (Lib.hid bounds_5)
theorem starV_bit (low high i : Nat) (hh : high ≤ 62) : (starV low high).testBit i = (decide (i = 63) || (decide (low ≤ i) && decide (i ≤ high))) := by
  unfold starV
  rw [Nat.testBit_or, show (9223372036854775808 : Nat) = 2 ^ 63 from rfl, Nat.testBit_two_pow]
  by_cases hi : i < 64
  · rw [GB_bit _ _ _ _ hi]
    unfold steps
    by_cases h : i = 63
    · subst h; simp
    · have : ¬ 63 = i := fun e => h e.symm
      simp [Nat.mod_one, h, this]
  · rw [show (GB low high 1).testBit i = false from Nat.testBit_lt_two_pow (Nat.lt_of_lt_of_le (GB_lt _ _ _) (show 2 ^ 64 ≤ 2 ^ i from Nat.pow_le_pow_right (n := 2) (by decide) (by omega)))]
    have h1 : ¬ 63 = i := by omega
    have h2 : ¬ i = 63 := by omega
    have h3 : ¬ i ≤ high := by omega
    simp [h1, h2, h3]
end Go.Proofs.Ytpgclepiagfgfaa
