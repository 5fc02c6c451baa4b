/- laws.FnSemverPrintReads, walked. -/
import Derived.Test.YtbipmpojmfbekaaDoorPPrint
import Derived.Test.YtbipmpojmfbekaaDoorSvGoods
namespace Go.Proofs.YtbipmpojmfbekaaDoor
open Go.RowKit
set_option linter.unusedVariables false
set_option linter.unusedSimpArgs false

theorem row1 (W : World) (g : Nat) (hn : g = W.heap.size) (v1 : VP) : RowAt (W.alloc (.cells #[.int .u64 v1.1, .int .u64 v1.2.1, .int .u64 v1.2.2.1, .string v1.2.2.2.1, .string v1.2.2.2.2] 24)) g [v1] := by
  intro i hi
  rcases i with _ | i
  · exact ⟨(plainAt_last W _ g hn).cell 0, (plainAt_last W _ g hn).cell 1, (plainAt_last W _ g hn).cell 2, (plainAt_last W _ g hn).cell 3, (plainAt_last W _ g hn).cell 4⟩
  · exact absurd hi (by show ¬ i + 1 < 1; omega)

set_option maxRecDepth 100000 in
set_option maxHeartbeats 4000000 in
theorem print_bad (a b c : Int) (p m : ByteArray) (a0 : 0 ≤ a) (a1 : a < 18446744073709551616) (b0 : 0 ≤ b) (b1 : b < 18446744073709551616) (c0' : 0 ≤ c) (c1' : c < 18446744073709551616) (hp : p.size ≤ 2147483647) (hm : m.size ≤ 2147483647) (w : World) (ht : Hid (Tab10 w)) (HBG : Hid (goodAll [(a, b, c, p, m)] = false)) :
    Calls Tryd.prog 3 #[.agg (plainC a b c p m)] w (BoolPost true w) := by
  go_enter Tryd.func3, Tryd.ntmps3
  go_wp2_with fail
  refine (fits14_any a b c p m true (by simp; omega) _).mono ?_
  rintro e w1 ⟨rfl, rfl⟩
  go_wp2_with fail
  have c0 : ((w.alloc (.cells (plainC a b c p m) 24)).alloc (.cells (plainC a b c p m) 24)).cell? ⟨w.heap.size, 0, none⟩ = some (.int .u64 a) := ((plainAt_last _ _ _ rfl).alloc _).cell 0
  have c1 : ((w.alloc (.cells (plainC a b c p m) 24)).alloc (.cells (plainC a b c p m) 24)).cell? ⟨w.heap.size, 1, none⟩ = some (.int .u64 b) := ((plainAt_last _ _ _ rfl).alloc _).cell 1
  have c2 : ((w.alloc (.cells (plainC a b c p m) 24)).alloc (.cells (plainC a b c p m) 24)).cell? ⟨w.heap.size, 2, none⟩ = some (.int .u64 c) := ((plainAt_last _ _ _ rfl).alloc _).cell 2
  have c3 : ((w.alloc (.cells (plainC a b c p m) 24)).alloc (.cells (plainC a b c p m) 24)).cell? ⟨w.heap.size, 3, none⟩ = some (.string p) := ((plainAt_last _ _ _ rfl).alloc _).cell 3
  have c4 : ((w.alloc (.cells (plainC a b c p m) 24)).alloc (.cells (plainC a b c p m) 24)).cell? ⟨w.heap.size, 4, none⟩ = some (.string m) := ((plainAt_last _ _ _ rfl).alloc _).cell 4
  refine (svGood_any _ 1 [(a, b, c, p, m)] (by simp) (by simp) (fun i => by rcases i with _ | i <;> first | exact ⟨hp, hm⟩ | exact ⟨Nat.zero_le _, Nat.zero_le _⟩) _ (by first | omega | (simp <;> omega)) (row1 _ _ (by simp) (a, b, c, p, m))).mono ?_
  rintro e w1 ⟨rfl, hb⟩
  rw [HBG.out]
  have c0 : w1.cell? ⟨w.heap.size, 0, none⟩ = some (.int .u64 a) := (by refine keepB hb (by first | omega | (simp <;> omega)) ?_; (repeat (first | assumption | (with_reducible refine keepD ?_) | (with_reducible refine keepN ?_) | (with_reducible refine keepV ?_))))
  have c1 : w1.cell? ⟨w.heap.size, 1, none⟩ = some (.int .u64 b) := (by refine keepB hb (by first | omega | (simp <;> omega)) ?_; (repeat (first | assumption | (with_reducible refine keepD ?_) | (with_reducible refine keepN ?_) | (with_reducible refine keepV ?_))))
  have c2 : w1.cell? ⟨w.heap.size, 2, none⟩ = some (.int .u64 c) := (by refine keepB hb (by first | omega | (simp <;> omega)) ?_; (repeat (first | assumption | (with_reducible refine keepD ?_) | (with_reducible refine keepN ?_) | (with_reducible refine keepV ?_))))
  have c3 : w1.cell? ⟨w.heap.size, 3, none⟩ = some (.string p) := (by refine keepB hb (by first | omega | (simp <;> omega)) ?_; (repeat (first | assumption | (with_reducible refine keepD ?_) | (with_reducible refine keepN ?_) | (with_reducible refine keepV ?_))))
  have c4 : w1.cell? ⟨w.heap.size, 4, none⟩ = some (.string m) := (by refine keepB hb (by first | omega | (simp <;> omega)) ?_; (repeat (first | assumption | (with_reducible refine keepD ?_) | (with_reducible refine keepN ?_) | (with_reducible refine keepV ?_))))
  have bk : Below w.heap.size w w1 := Below.trans (by repeat (first | (with_reducible assumption) | (with_reducible refine Below.setCell ?_ (by first | omega | (simp <;> omega)) _) | (with_reducible exact Below.refl _ _) | refine below_drewN ?_ _ | refine Below.drew ?_ | refine Below.alloc ?_ (by first | omega | (simp <;> omega)) _)) (hb.mono (by first | omega | (simp <;> omega)))
  have nk : w.heap.size < w1.heap.size := by have := hb.size; first | omega | (simp at this; omega)
  clear hb
  go_wp2_with fail
  go_ret
  exact ⟨rfl, bk⟩

set_option maxRecDepth 100000 in
set_option maxHeartbeats 4000000 in
theorem print_long (a b c : Int) (p m : ByteArray) (a0 : 0 ≤ a) (a1 : a < 18446744073709551616) (b0 : 0 ≤ b) (b1 : b < 18446744073709551616) (c0' : 0 ≤ c) (c1' : c < 18446744073709551616) (hp : p.size ≤ 2147483647) (hm : m.size ≤ 2147483647) (w : World) (ht : Hid (Tab10 w)) (HBG : Hid (goodAll [(a, b, c, p, m)] = true)) (HF : Hid (decide ((textB a b c p m).size ≤ 256) = false)) :
    Calls Tryd.prog 3 #[.agg (plainC a b c p m)] w (BoolPost true w) := by
  have hF := fun W => fits_any a b c p m a0 a1 b0 b1 c0' c1' hp hm W
  rw [HF.out] at hF
  have hF2 := hid9 hF
  clear hF
  go_enter Tryd.func3, Tryd.ntmps3
  go_wp2_with fail
  refine (fits14_any a b c p m true (by simp; omega) _).mono ?_
  rintro e w1 ⟨rfl, rfl⟩
  go_wp2_with fail
  have c0 : ((w.alloc (.cells (plainC a b c p m) 24)).alloc (.cells (plainC a b c p m) 24)).cell? ⟨w.heap.size, 0, none⟩ = some (.int .u64 a) := ((plainAt_last _ _ _ rfl).alloc _).cell 0
  have c1 : ((w.alloc (.cells (plainC a b c p m) 24)).alloc (.cells (plainC a b c p m) 24)).cell? ⟨w.heap.size, 1, none⟩ = some (.int .u64 b) := ((plainAt_last _ _ _ rfl).alloc _).cell 1
  have c2 : ((w.alloc (.cells (plainC a b c p m) 24)).alloc (.cells (plainC a b c p m) 24)).cell? ⟨w.heap.size, 2, none⟩ = some (.int .u64 c) := ((plainAt_last _ _ _ rfl).alloc _).cell 2
  have c3 : ((w.alloc (.cells (plainC a b c p m) 24)).alloc (.cells (plainC a b c p m) 24)).cell? ⟨w.heap.size, 3, none⟩ = some (.string p) := ((plainAt_last _ _ _ rfl).alloc _).cell 3
  have c4 : ((w.alloc (.cells (plainC a b c p m) 24)).alloc (.cells (plainC a b c p m) 24)).cell? ⟨w.heap.size, 4, none⟩ = some (.string m) := ((plainAt_last _ _ _ rfl).alloc _).cell 4
  refine (svGood_any _ 1 [(a, b, c, p, m)] (by simp) (by simp) (fun i => by rcases i with _ | i <;> first | exact ⟨hp, hm⟩ | exact ⟨Nat.zero_le _, Nat.zero_le _⟩) _ (by first | omega | (simp <;> omega)) (row1 _ _ (by simp) (a, b, c, p, m))).mono ?_
  rintro e w1 ⟨rfl, hb⟩
  rw [HBG.out]
  have c0 : w1.cell? ⟨w.heap.size, 0, none⟩ = some (.int .u64 a) := (by refine keepB hb (by first | omega | (simp <;> omega)) ?_; (repeat (first | assumption | (with_reducible refine keepD ?_) | (with_reducible refine keepN ?_) | (with_reducible refine keepV ?_))))
  have c1 : w1.cell? ⟨w.heap.size, 1, none⟩ = some (.int .u64 b) := (by refine keepB hb (by first | omega | (simp <;> omega)) ?_; (repeat (first | assumption | (with_reducible refine keepD ?_) | (with_reducible refine keepN ?_) | (with_reducible refine keepV ?_))))
  have c2 : w1.cell? ⟨w.heap.size, 2, none⟩ = some (.int .u64 c) := (by refine keepB hb (by first | omega | (simp <;> omega)) ?_; (repeat (first | assumption | (with_reducible refine keepD ?_) | (with_reducible refine keepN ?_) | (with_reducible refine keepV ?_))))
  have c3 : w1.cell? ⟨w.heap.size, 3, none⟩ = some (.string p) := (by refine keepB hb (by first | omega | (simp <;> omega)) ?_; (repeat (first | assumption | (with_reducible refine keepD ?_) | (with_reducible refine keepN ?_) | (with_reducible refine keepV ?_))))
  have c4 : w1.cell? ⟨w.heap.size, 4, none⟩ = some (.string m) := (by refine keepB hb (by first | omega | (simp <;> omega)) ?_; (repeat (first | assumption | (with_reducible refine keepD ?_) | (with_reducible refine keepN ?_) | (with_reducible refine keepV ?_))))
  have bk : Below w.heap.size w w1 := Below.trans (by repeat (first | (with_reducible assumption) | (with_reducible refine Below.setCell ?_ (by first | omega | (simp <;> omega)) _) | (with_reducible exact Below.refl _ _) | refine below_drewN ?_ _ | refine Below.drew ?_ | refine Below.alloc ?_ (by first | omega | (simp <;> omega)) _)) (hb.mono (by first | omega | (simp <;> omega)))
  have nk : w.heap.size < w1.heap.size := by have := hb.size; first | omega | (simp at this; omega)
  clear hb
  go_wp2_with fail
  refine (hF2.out _).mono ?_
  rintro e w2 ⟨rfl, hb⟩
  have c0 : w2.cell? ⟨w.heap.size, 0, none⟩ = some (.int .u64 a) := (by refine keepB hb (by first | omega | (simp <;> omega)) ?_; (repeat (first | assumption | (with_reducible refine keepD ?_) | (with_reducible refine keepN ?_) | (with_reducible refine keepV ?_))))
  have c1 : w2.cell? ⟨w.heap.size, 1, none⟩ = some (.int .u64 b) := (by refine keepB hb (by first | omega | (simp <;> omega)) ?_; (repeat (first | assumption | (with_reducible refine keepD ?_) | (with_reducible refine keepN ?_) | (with_reducible refine keepV ?_))))
  have c2 : w2.cell? ⟨w.heap.size, 2, none⟩ = some (.int .u64 c) := (by refine keepB hb (by first | omega | (simp <;> omega)) ?_; (repeat (first | assumption | (with_reducible refine keepD ?_) | (with_reducible refine keepN ?_) | (with_reducible refine keepV ?_))))
  have c3 : w2.cell? ⟨w.heap.size, 3, none⟩ = some (.string p) := (by refine keepB hb (by first | omega | (simp <;> omega)) ?_; (repeat (first | assumption | (with_reducible refine keepD ?_) | (with_reducible refine keepN ?_) | (with_reducible refine keepV ?_))))
  have c4 : w2.cell? ⟨w.heap.size, 4, none⟩ = some (.string m) := (by refine keepB hb (by first | omega | (simp <;> omega)) ?_; (repeat (first | assumption | (with_reducible refine keepD ?_) | (with_reducible refine keepN ?_) | (with_reducible refine keepV ?_))))
  have bk : Below w.heap.size w w2 := Below.trans (by repeat (first | (with_reducible assumption) | (with_reducible refine Below.setCell ?_ (by first | omega | (simp <;> omega)) _) | (with_reducible exact Below.refl _ _) | refine below_drewN ?_ _ | refine Below.drew ?_ | refine Below.alloc ?_ (by first | omega | (simp <;> omega)) _)) (hb.mono (by first | omega | (simp <;> omega)))
  have nk : w.heap.size < w2.heap.size := by have := hb.size; first | omega | (simp at this; omega)
  clear hb
  go_wp2_with fail
  go_ret
  exact ⟨rfl, bk⟩

set_option maxRecDepth 100000 in
set_option maxHeartbeats 4000000 in
theorem print_main (a b c : Int) (p m : ByteArray) (a0 : 0 ≤ a) (a1 : a < 18446744073709551616) (b0 : 0 ≤ b) (b1 : b < 18446744073709551616) (c0' : 0 ≤ c) (c1' : c < 18446744073709551616) (hp : p.size ≤ 2147483647) (hm : m.size ≤ 2147483647) (w : World) (ht : Hid (Tab10 w)) (HBG : Hid (goodAll [(a, b, c, p, m)] = true)) (HG : Hid (goodB p m = true)) (HF : Hid (decide ((textB a b c p m).size ≤ 256) = true)) :
    Calls Tryd.prog 3 #[.agg (plainC a b c p m)] w (BoolPost true w) := by
  have hF := fun W => fits_any a b c p m a0 a1 b0 b1 c0' c1' hp hm W
  have hV := fun W ht => verText_any a b c p m a0 a1 b0 b1 c0' c1' hp hm W ht
  have hS := hid9 (fun W => print_strict a b c p m a0 a1 b0 b1 c0' c1' HG.out (by simpa using HF.out) W)
  rw [HF.out] at hF
  have hF2 := hid9 hF
  clear hF HG
  generalize textB a b c p m = T at *
  have hV2 := hid9 hV
  clear hV
  go_enter Tryd.func3, Tryd.ntmps3
  go_wp2_with fail
  refine (fits14_any a b c p m true (by simp; omega) _).mono ?_
  rintro e w1 ⟨rfl, rfl⟩
  go_wp2_with fail
  have c0 : ((w.alloc (.cells (plainC a b c p m) 24)).alloc (.cells (plainC a b c p m) 24)).cell? ⟨w.heap.size, 0, none⟩ = some (.int .u64 a) := ((plainAt_last _ _ _ rfl).alloc _).cell 0
  have c1 : ((w.alloc (.cells (plainC a b c p m) 24)).alloc (.cells (plainC a b c p m) 24)).cell? ⟨w.heap.size, 1, none⟩ = some (.int .u64 b) := ((plainAt_last _ _ _ rfl).alloc _).cell 1
  have c2 : ((w.alloc (.cells (plainC a b c p m) 24)).alloc (.cells (plainC a b c p m) 24)).cell? ⟨w.heap.size, 2, none⟩ = some (.int .u64 c) := ((plainAt_last _ _ _ rfl).alloc _).cell 2
  have c3 : ((w.alloc (.cells (plainC a b c p m) 24)).alloc (.cells (plainC a b c p m) 24)).cell? ⟨w.heap.size, 3, none⟩ = some (.string p) := ((plainAt_last _ _ _ rfl).alloc _).cell 3
  have c4 : ((w.alloc (.cells (plainC a b c p m) 24)).alloc (.cells (plainC a b c p m) 24)).cell? ⟨w.heap.size, 4, none⟩ = some (.string m) := ((plainAt_last _ _ _ rfl).alloc _).cell 4
  refine (svGood_any _ 1 [(a, b, c, p, m)] (by simp) (by simp) (fun i => by rcases i with _ | i <;> first | exact ⟨hp, hm⟩ | exact ⟨Nat.zero_le _, Nat.zero_le _⟩) _ (by first | omega | (simp <;> omega)) (row1 _ _ (by simp) (a, b, c, p, m))).mono ?_
  rintro e w1 ⟨rfl, hb⟩
  rw [HBG.out]
  have c0 : w1.cell? ⟨w.heap.size, 0, none⟩ = some (.int .u64 a) := (by refine keepB hb (by first | omega | (simp <;> omega)) ?_; (repeat (first | assumption | (with_reducible refine keepD ?_) | (with_reducible refine keepN ?_) | (with_reducible refine keepV ?_))))
  have c1 : w1.cell? ⟨w.heap.size, 1, none⟩ = some (.int .u64 b) := (by refine keepB hb (by first | omega | (simp <;> omega)) ?_; (repeat (first | assumption | (with_reducible refine keepD ?_) | (with_reducible refine keepN ?_) | (with_reducible refine keepV ?_))))
  have c2 : w1.cell? ⟨w.heap.size, 2, none⟩ = some (.int .u64 c) := (by refine keepB hb (by first | omega | (simp <;> omega)) ?_; (repeat (first | assumption | (with_reducible refine keepD ?_) | (with_reducible refine keepN ?_) | (with_reducible refine keepV ?_))))
  have c3 : w1.cell? ⟨w.heap.size, 3, none⟩ = some (.string p) := (by refine keepB hb (by first | omega | (simp <;> omega)) ?_; (repeat (first | assumption | (with_reducible refine keepD ?_) | (with_reducible refine keepN ?_) | (with_reducible refine keepV ?_))))
  have c4 : w1.cell? ⟨w.heap.size, 4, none⟩ = some (.string m) := (by refine keepB hb (by first | omega | (simp <;> omega)) ?_; (repeat (first | assumption | (with_reducible refine keepD ?_) | (with_reducible refine keepN ?_) | (with_reducible refine keepV ?_))))
  have bk : Below w.heap.size w w1 := Below.trans (by repeat (first | (with_reducible assumption) | (with_reducible refine Below.setCell ?_ (by first | omega | (simp <;> omega)) _) | (with_reducible exact Below.refl _ _) | refine below_drewN ?_ _ | refine Below.drew ?_ | refine Below.alloc ?_ (by first | omega | (simp <;> omega)) _)) (hb.mono (by first | omega | (simp <;> omega)))
  have nk : w.heap.size < w1.heap.size := by have := hb.size; first | omega | (simp at this; omega)
  clear hb
  go_wp2_with fail
  refine (hF2.out _).mono ?_
  rintro e w2 ⟨rfl, hb⟩
  have c0 : w2.cell? ⟨w.heap.size, 0, none⟩ = some (.int .u64 a) := (by refine keepB hb (by first | omega | (simp <;> omega)) ?_; (repeat (first | assumption | (with_reducible refine keepD ?_) | (with_reducible refine keepN ?_) | (with_reducible refine keepV ?_))))
  have c1 : w2.cell? ⟨w.heap.size, 1, none⟩ = some (.int .u64 b) := (by refine keepB hb (by first | omega | (simp <;> omega)) ?_; (repeat (first | assumption | (with_reducible refine keepD ?_) | (with_reducible refine keepN ?_) | (with_reducible refine keepV ?_))))
  have c2 : w2.cell? ⟨w.heap.size, 2, none⟩ = some (.int .u64 c) := (by refine keepB hb (by first | omega | (simp <;> omega)) ?_; (repeat (first | assumption | (with_reducible refine keepD ?_) | (with_reducible refine keepN ?_) | (with_reducible refine keepV ?_))))
  have c3 : w2.cell? ⟨w.heap.size, 3, none⟩ = some (.string p) := (by refine keepB hb (by first | omega | (simp <;> omega)) ?_; (repeat (first | assumption | (with_reducible refine keepD ?_) | (with_reducible refine keepN ?_) | (with_reducible refine keepV ?_))))
  have c4 : w2.cell? ⟨w.heap.size, 4, none⟩ = some (.string m) := (by refine keepB hb (by first | omega | (simp <;> omega)) ?_; (repeat (first | assumption | (with_reducible refine keepD ?_) | (with_reducible refine keepN ?_) | (with_reducible refine keepV ?_))))
  have bk : Below w.heap.size w w2 := Below.trans (by repeat (first | (with_reducible assumption) | (with_reducible refine Below.setCell ?_ (by first | omega | (simp <;> omega)) _) | (with_reducible exact Below.refl _ _) | refine below_drewN ?_ _ | refine Below.drew ?_ | refine Below.alloc ?_ (by first | omega | (simp <;> omega)) _)) (hb.mono (by first | omega | (simp <;> omega)))
  have nk : w.heap.size < w2.heap.size := by have := hb.size; first | omega | (simp at this; omega)
  clear hb
  go_wp2_with fail
  refine (hV2.out _ (tabBelow ht (by repeat (first | (with_reducible assumption) | (with_reducible refine Below.setCell ?_ (by first | omega | (simp <;> omega)) _) | (with_reducible exact Below.refl _ _) | refine below_drewN ?_ _ | refine Below.drew ?_ | refine Below.alloc ?_ (by first | omega | (simp <;> omega)) _)))).mono ?_
  rintro e w3 ⟨rfl, hb⟩
  have c0 : w3.cell? ⟨w.heap.size, 0, none⟩ = some (.int .u64 a) := (by refine keepB hb (by first | omega | (simp <;> omega)) ?_; (repeat (first | assumption | (with_reducible refine keepD ?_) | (with_reducible refine keepN ?_) | (with_reducible refine keepV ?_))))
  have c1 : w3.cell? ⟨w.heap.size, 1, none⟩ = some (.int .u64 b) := (by refine keepB hb (by first | omega | (simp <;> omega)) ?_; (repeat (first | assumption | (with_reducible refine keepD ?_) | (with_reducible refine keepN ?_) | (with_reducible refine keepV ?_))))
  have c2 : w3.cell? ⟨w.heap.size, 2, none⟩ = some (.int .u64 c) := (by refine keepB hb (by first | omega | (simp <;> omega)) ?_; (repeat (first | assumption | (with_reducible refine keepD ?_) | (with_reducible refine keepN ?_) | (with_reducible refine keepV ?_))))
  have c3 : w3.cell? ⟨w.heap.size, 3, none⟩ = some (.string p) := (by refine keepB hb (by first | omega | (simp <;> omega)) ?_; (repeat (first | assumption | (with_reducible refine keepD ?_) | (with_reducible refine keepN ?_) | (with_reducible refine keepV ?_))))
  have c4 : w3.cell? ⟨w.heap.size, 4, none⟩ = some (.string m) := (by refine keepB hb (by first | omega | (simp <;> omega)) ?_; (repeat (first | assumption | (with_reducible refine keepD ?_) | (with_reducible refine keepN ?_) | (with_reducible refine keepV ?_))))
  have bk : Below w.heap.size w w3 := Below.trans (by repeat (first | (with_reducible assumption) | (with_reducible refine Below.setCell ?_ (by first | omega | (simp <;> omega)) _) | (with_reducible exact Below.refl _ _) | refine below_drewN ?_ _ | refine Below.drew ?_ | refine Below.alloc ?_ (by first | omega | (simp <;> omega)) _)) (hb.mono (by first | omega | (simp <;> omega)))
  have nk : w.heap.size < w3.heap.size := by have := hb.size; first | omega | (simp at this; omega)
  clear hb
  go_wp2_with fail
  refine (strictVersion_any T a b c p m _ hS).mono ?_
  rintro e w4 ⟨rfl, hb⟩
  have c0 : w4.cell? ⟨w.heap.size, 0, none⟩ = some (.int .u64 a) := (by refine keepB hb (by first | omega | (simp <;> omega)) ?_; (repeat (first | assumption | (with_reducible refine keepD ?_) | (with_reducible refine keepN ?_) | (with_reducible refine keepV ?_))))
  have c1 : w4.cell? ⟨w.heap.size, 1, none⟩ = some (.int .u64 b) := (by refine keepB hb (by first | omega | (simp <;> omega)) ?_; (repeat (first | assumption | (with_reducible refine keepD ?_) | (with_reducible refine keepN ?_) | (with_reducible refine keepV ?_))))
  have c2 : w4.cell? ⟨w.heap.size, 2, none⟩ = some (.int .u64 c) := (by refine keepB hb (by first | omega | (simp <;> omega)) ?_; (repeat (first | assumption | (with_reducible refine keepD ?_) | (with_reducible refine keepN ?_) | (with_reducible refine keepV ?_))))
  have c3 : w4.cell? ⟨w.heap.size, 3, none⟩ = some (.string p) := (by refine keepB hb (by first | omega | (simp <;> omega)) ?_; (repeat (first | assumption | (with_reducible refine keepD ?_) | (with_reducible refine keepN ?_) | (with_reducible refine keepV ?_))))
  have c4 : w4.cell? ⟨w.heap.size, 4, none⟩ = some (.string m) := (by refine keepB hb (by first | omega | (simp <;> omega)) ?_; (repeat (first | assumption | (with_reducible refine keepD ?_) | (with_reducible refine keepN ?_) | (with_reducible refine keepV ?_))))
  have bk : Below w.heap.size w w4 := Below.trans (by repeat (first | (with_reducible assumption) | (with_reducible refine Below.setCell ?_ (by first | omega | (simp <;> omega)) _) | (with_reducible exact Below.refl _ _) | refine below_drewN ?_ _ | refine Below.drew ?_ | refine Below.alloc ?_ (by first | omega | (simp <;> omega)) _)) (hb.mono (by first | omega | (simp <;> omega)))
  have nk : w.heap.size < w4.heap.size := by have := hb.size; first | omega | (simp at this; omega)
  clear hb
  go_wp2_with fail
  go_ret
  exact ⟨rfl, Below.alloc bk (by omega) _⟩

set_option maxRecDepth 100000 in
set_option maxHeartbeats 4000000 in
theorem print_fa (a b c : Int) (p m : ByteArray) (h : (decide (p.size ≤ 2147483647) && decide (m.size ≤ 2147483647)) = false) (w : World) :
    Calls Tryd.prog 3 #[.agg (plainC a b c p m)] w (BoolPost true w) := by
  have H := Lib.hid h
  clear h
  go_enter Tryd.func3, Tryd.ntmps3
  go_wp2_with fail
  refine (fits14_any a b c p m false H.out _).mono ?_
  rintro e w1 ⟨rfl, rfl⟩
  go_wp2_with fail
  go_ret
  exact ⟨rfl, (by repeat (first | assumption | exact Below.refl _ _ | refine below_drewN ?_ _ | refine Below.drew ?_ | refine Below.alloc ?_ (by first | omega | (simp <;> omega)) _))⟩

theorem wf64 {a : Int} (h : (Lit.int .u64 a).wf = true) : 0 ≤ a ∧ a < 18446744073709551616 := by
  have h2 : (decide (IntKind.u64.min ≤ a) && decide (a ≤ IntKind.u64.max)) = true := h
  have e1 : IntKind.u64.min = 0 := by decide
  have e2 : IntKind.u64.max = 18446744073709551615 := by decide
  rw [e1, e2] at h2
  simp only [Bool.and_eq_true, decide_eq_true_eq] at h2
  omega

theorem print_law (a b c : Int) (p m : ByteArray) (_w0 : (Lit.int .u64 a).wf = true) (_w1 : (Lit.int .u64 b).wf = true) (_w2 : (Lit.int .u64 c).wf = true) (_w3 : p.size ≤ maxLen) (_w4 : m.size ≤ maxLen) (w : World) (ht : Hid (Tab10 w)) :
    Calls Tryd.prog 3 #[.agg #[.int .u64 a, .int .u64 b, .int .u64 c, .string p, .string m]] w fun e w' => e = .returned (.bool true) ∧ Below w.heap.size w w' := by
  have ha := wf64 _w0
  have hb := wf64 _w1
  have hc := wf64 _w2
  cases h1 : (decide (p.size ≤ 2147483647) && decide (m.size ≤ 2147483647)) with
  | false => exact print_fa a b c p m h1 w
  | true =>
    simp only [Bool.and_eq_true, decide_eq_true_eq] at h1
    cases h2 : goodAll [(a, b, c, p, m)] with
    | false => exact print_bad a b c p m ha.1 ha.2 hb.1 hb.2 hc.1 hc.2 h1.1 h1.2 w ht (Lib.hid h2)
    | true =>
      cases h3 : decide ((textB a b c p m).size ≤ 256) with
      | false => exact print_long a b c p m ha.1 ha.2 hb.1 hb.2 hc.1 hc.2 h1.1 h1.2 w ht (Lib.hid h2) (Lib.hid h3)
      | true =>
        have hg : goodB p m = true := by
          unfold goodAll okV at h2
          simp only [List.all_cons, List.all_nil, Bool.and_true, Bool.and_eq_true] at h2
          exact h2.2
        exact print_main a b c p m ha.1 ha.2 hb.1 hb.2 hc.1 hc.2 h1.1 h1.2 w ht (Lib.hid h2) (Lib.hid hg) (Lib.hid h3)
end Go.Proofs.YtbipmpojmfbekaaDoor
