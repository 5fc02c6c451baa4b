/- cron.getRange at "*" and "*/1". -/
import Derived.Test.YtcbcmbkioibliaaDoorCrRange
namespace Go.Proofs.YtcbcmbkioibliaaDoor
open Go.RowKit Go.Shelf
set_option linter.unusedVariables false
set_option linter.unusedSimpArgs false

/-- The set of a star. -/
def starV (low high : Nat) : Nat := GB low high 1 ||| 9223372036854775808
theorem or_star (v : Nat) (h : v < 18446744073709551616) : bits .or .u64 (v : Int) 9223372036854775808 = ((v ||| 9223372036854775808 : Nat) : Int) := by
  have := u64_or_nat v 9223372036854775808 h (by decide)
  simpa using this
theorem star_free (c : Int) (h : c ≠ 42) : cutB c ⟨#[42]⟩ = [⟨#[42]⟩] := by
  refine cutB_free c _ (fun x hx => ?_)
  have : x = 42 := by simpa using hx
  subst this
  intro e
  exact h (by rw [← e]; rfl)
theorem star_one : cutB 47 ⟨#[42, 47, 49]⟩ = [⟨#[42]⟩, decT 1] := by
  have e1 : decT 1 = ⟨#[49]⟩ := by unfold decT; rw [Lib.decDigits_one (by decide)]; rfl
  rw [e1]
  decide

set_option maxRecDepth 100000 in
set_option maxHeartbeats 4000000 in
theorem star_0 (low high : Nat) (hl : low ≤ high) (hh : high ≤ 62) (M : Value) (w : World) :
    Calls Tryd.prog 23 #[.string ⟨#[42]⟩, .agg #[.int .u64 low, .int .u64 high, M]] w (RangeOk (starV low high) w) := by
  have i1 : ((low : Int) < (low : Int)) = False := by simp
  have i2 : ((high : Int) < (high : Int)) = False := by simp
  have i3 : ((high : Int) < (low : Int)) = False := by simp; omega
  go_enter Tryd.func23, Tryd.ntmps23
  go_wp2_with fail
  have e0 : (w.alloc (.cells #[.int .u64 low, .int .u64 high, M] 49)).heap[w.heap.size]? = some (.cells #[.int .u64 low, .int .u64 high, M] 49) := heap_alloc_new w _
  have hw0 : Below w.heap.size w (w.alloc (.cells #[.int .u64 low, .int .u64 high, M] 49)) := (by repeat (first | (with_reducible assumption) | (with_reducible exact Below.refl _ _) | (with_reducible refine below_drewN ?_ _) | (with_reducible refine Below.drew ?_) | (with_reducible refine Below.alloc ?_ (by first | omega | (simp <;> omega)) _)))
  refine (splitSv_any ⟨#[42]⟩ 47 (by decide) _).mono ?_
  rintro e w1 ⟨v1, rfl, hown1, hb1⟩
  have d0 : w1.cell? ⟨w.heap.size, 0, none⟩ = some (.int .u64 low) := cellB hb1 (cell_of_row _ _ 0 _ _ (0, 0) e0)
  have d1 : w1.cell? ⟨w.heap.size, 1, none⟩ = some (.int .u64 high) := cellB hb1 (cell_of_row _ _ 1 _ _ (0, 0) e0)
  have bk : Below w.heap.size w w1 := hw0.trans (hb1.mono hw0.size)
  clear hb1 hw0 e0
  rw [show ((47 : UInt8).toNat : Int) = 47 from rfl, star_free 47 (by decide)] at hown1
  obtain ⟨g1, cap1, rfl, hc1, hm1, hcell1⟩ := own_open hown1 (by simp)
  have x0 : w1.cell? ⟨g1, 0, none⟩ = some (.string (⟨#[42]⟩)) := hcell1 0 (by simp)
  simp only [List.length_cons, List.length_nil, Nat.zero_add, Nat.reduceAdd] at hc1 ⊢
  unfold maxLen at hm1
  clear hown1 hcell1
  go_wp2_with fail
  refine (splitSv_any ⟨#[42]⟩ 45 (by decide) _).mono ?_
  rintro e w2 ⟨v2, rfl, hown2, hb2⟩
  have d0 : w2.cell? ⟨w.heap.size, 0, none⟩ = some (.int .u64 low) := cellB hb2 d0
  have d1 : w2.cell? ⟨w.heap.size, 1, none⟩ = some (.int .u64 high) := cellB hb2 d1
  have x0 : w2.cell? ⟨g1, 0, none⟩ = some (.string (⟨#[42]⟩)) := cellB hb2 x0
  replace bk : Below w.heap.size w w2 := bk.trans (hb2.mono bk.size)
  clear hb2
  rw [show ((45 : UInt8).toNat : Int) = 45 from rfl, star_free 45 (by decide)] at hown2
  obtain ⟨g2, cap2, rfl, hc2, hm2, hcell2⟩ := own_open hown2 (by simp)
  have y0 : w2.cell? ⟨g2, 0, none⟩ = some (.string ⟨#[42]⟩) := hcell2 0 (by simp)
  simp only [List.length_cons, List.length_nil, Nat.zero_add, Nat.reduceAdd] at hc2 ⊢
  unfold maxLen at hm2
  clear hown2 hcell2
  go_wp2_with fail
  refine (getBits_one low high hl (by omega) _).mono ?_
  rintro e w9 ⟨rfl, rfl⟩
  go_wp2_with fail
  refine bodyPost_ret (v := .tuple #[.int .u64 (starV low high : Nat), .nilIface]) (by simp [results, Tryd.results23, go_sem, starV, or_star _ (GB_lt _ _ _)]) rfl ⟨rfl, ?_⟩
  have nk : w.heap.size ≤ w2.heap.size := bk.size
  exact (by repeat (first | (with_reducible assumption) | (with_reducible exact Below.refl _ _) | (with_reducible refine below_drewN ?_ _) | (with_reducible refine Below.drew ?_) | (with_reducible refine Below.alloc ?_ (by first | omega | (simp <;> omega)) _)))

set_option maxRecDepth 100000 in
set_option maxHeartbeats 4000000 in
theorem star_1 (low high : Nat) (hl : low ≤ high) (hh : high ≤ 62) (M : Value) (w : World) :
    Calls Tryd.prog 23 #[.string ⟨#[42, 47, 49]⟩, .agg #[.int .u64 low, .int .u64 high, M]] w (RangeOk (starV low high) w) := by
  have i1 : ((low : Int) < (low : Int)) = False := by simp
  have i2 : ((high : Int) < (high : Int)) = False := by simp
  have i3 : ((high : Int) < (low : Int)) = False := by simp; omega
  go_enter Tryd.func23, Tryd.ntmps23
  go_wp2_with fail
  have e0 : (w.alloc (.cells #[.int .u64 low, .int .u64 high, M] 49)).heap[w.heap.size]? = some (.cells #[.int .u64 low, .int .u64 high, M] 49) := heap_alloc_new w _
  have hw0 : Below w.heap.size w (w.alloc (.cells #[.int .u64 low, .int .u64 high, M] 49)) := (by repeat (first | (with_reducible assumption) | (with_reducible exact Below.refl _ _) | (with_reducible refine below_drewN ?_ _) | (with_reducible refine Below.drew ?_) | (with_reducible refine Below.alloc ?_ (by first | omega | (simp <;> omega)) _)))
  refine (splitSv_any ⟨#[42, 47, 49]⟩ 47 (by decide) _).mono ?_
  rintro e w1 ⟨v1, rfl, hown1, hb1⟩
  have d0 : w1.cell? ⟨w.heap.size, 0, none⟩ = some (.int .u64 low) := cellB hb1 (cell_of_row _ _ 0 _ _ (0, 0) e0)
  have d1 : w1.cell? ⟨w.heap.size, 1, none⟩ = some (.int .u64 high) := cellB hb1 (cell_of_row _ _ 1 _ _ (0, 0) e0)
  have bk : Below w.heap.size w w1 := hw0.trans (hb1.mono hw0.size)
  clear hb1 hw0 e0
  rw [show ((47 : UInt8).toNat : Int) = 47 from rfl, star_one] at hown1
  obtain ⟨g1, cap1, rfl, hc1, hm1, hcell1⟩ := own_open hown1 (by simp)
  have x0 : w1.cell? ⟨g1, 0, none⟩ = some (.string (⟨#[42]⟩)) := hcell1 0 (by simp)
  have x1 : w1.cell? ⟨g1, 1, none⟩ = some (.string (decT 1)) := hcell1 1 (by simp)
  simp only [List.length_cons, List.length_nil, Nat.zero_add, Nat.reduceAdd] at hc1 ⊢
  unfold maxLen at hm1
  clear hown1 hcell1
  go_wp2_with fail
  refine (splitSv_any ⟨#[42]⟩ 45 (by decide) _).mono ?_
  rintro e w2 ⟨v2, rfl, hown2, hb2⟩
  have d0 : w2.cell? ⟨w.heap.size, 0, none⟩ = some (.int .u64 low) := cellB hb2 d0
  have d1 : w2.cell? ⟨w.heap.size, 1, none⟩ = some (.int .u64 high) := cellB hb2 d1
  have x0 : w2.cell? ⟨g1, 0, none⟩ = some (.string (⟨#[42]⟩)) := cellB hb2 x0
  have x1 : w2.cell? ⟨g1, 1, none⟩ = some (.string (decT 1)) := cellB hb2 x1
  replace bk : Below w.heap.size w w2 := bk.trans (hb2.mono bk.size)
  clear hb2
  rw [show ((45 : UInt8).toNat : Int) = 45 from rfl, star_free 45 (by decide)] at hown2
  obtain ⟨g2, cap2, rfl, hc2, hm2, hcell2⟩ := own_open hown2 (by simp)
  have y0 : w2.cell? ⟨g2, 0, none⟩ = some (.string ⟨#[42]⟩) := hcell2 0 (by simp)
  simp only [List.length_cons, List.length_nil, Nat.zero_add, Nat.reduceAdd] at hc2 ⊢
  unfold maxLen at hm2
  clear hown2 hcell2
  go_wp2_with fail
  refine (mustInt_cr 1 (by decide) _).mono ?_
  rintro e w5 ⟨rfl, hb5⟩
  have d0 : w5.cell? ⟨w.heap.size, 0, none⟩ = some (.int .u64 low) := cellB hb5 d0
  have d1 : w5.cell? ⟨w.heap.size, 1, none⟩ = some (.int .u64 high) := cellB hb5 d1
  have x0 : w5.cell? ⟨g1, 0, none⟩ = some (.string (⟨#[42]⟩)) := cellB hb5 x0
  have x1 : w5.cell? ⟨g1, 1, none⟩ = some (.string (decT 1)) := cellB hb5 x1
  have y0 : w5.cell? ⟨g2, 0, none⟩ = some (.string ⟨#[42]⟩) := cellB hb5 y0
  replace bk : Below w.heap.size w w5 := bk.trans (hb5.mono bk.size)
  clear hb5
  go_wp2_with fail
  refine (getBits_one low high hl (by omega) _).mono ?_
  rintro e w9 ⟨rfl, rfl⟩
  go_wp2_with fail
  refine bodyPost_ret (v := .tuple #[.int .u64 (starV low high : Nat), .nilIface]) (by simp [results, Tryd.results23, go_sem, starV, or_star _ (GB_lt _ _ _)]) rfl ⟨rfl, ?_⟩
  have nk : w.heap.size ≤ w5.heap.size := bk.size
  exact (by repeat (first | (with_reducible assumption) | (with_reducible exact Below.refl _ _) | (with_reducible refine below_drewN ?_ _) | (with_reducible refine Below.drew ?_) | (with_reducible refine Below.alloc ?_ (by first | omega | (simp <;> omega)) _)))
end Go.Proofs.YtcbcmbkioibliaaDoor
