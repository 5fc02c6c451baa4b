/- laws.FnSemverTermPartition over what <, = and > answer. -/
import Derived.Test.YtdlpcfhhpjjjmaaDoorStHolds
import Derived.Test.YtdlpcfhhpjjjmaaDoorSvGood
import Derived.Test.YtdlpcfhhpjjjmaaDoorLaidErr
namespace Go.Proofs.YtdlpcfhhpjjjmaaDoor
open Go.RowKit
set_option linter.unusedVariables false
set_option linter.unusedSimpArgs false

/-- The two releases and the three operators stand. -/
def PartAt (V U G : Nat) (u0 u1 u2 v0 v1 v2 : Int) (w : World) : Prop :=
  w.cell? ⟨V, 0, none⟩ = some (.int .u64 u0) ∧ w.cell? ⟨V, 1, none⟩ = some (.int .u64 u1) ∧ w.cell? ⟨V, 2, none⟩ = some (.int .u64 u2) ∧ w.cell? ⟨V, 3, none⟩ = some (.string ⟨#[]⟩) ∧ w.cell? ⟨V, 4, none⟩ = some (.string ⟨#[]⟩) ∧ w.cell? ⟨U, 0, none⟩ = some (.int .u64 v0) ∧ w.cell? ⟨U, 1, none⟩ = some (.int .u64 v1) ∧ w.cell? ⟨U, 2, none⟩ = some (.int .u64 v2) ∧ w.cell? ⟨U, 3, none⟩ = some (.string ⟨#[]⟩) ∧ w.cell? ⟨U, 4, none⟩ = some (.string ⟨#[]⟩) ∧ w.cell? ⟨G, 0, none⟩ = some (.int .i64 3) ∧ w.cell? ⟨G, 1, none⟩ = some (.int .i64 0) ∧ w.cell? ⟨G, 2, none⟩ = some (.int .i64 2)
theorem cellB {X Y : World} {a : Addr} {v : Value} (hb : Below X.heap.size X Y) (h : X.cell? a = some v) : Y.cell? a = some v := (hb.cell (cellLt h)).trans h
theorem PartAt.below {V U G : Nat} {u0 u1 u2 v0 v1 v2 : Int} {X Y : World} (h : PartAt V U G u0 u1 u2 v0 v1 v2 X) (hb : Below X.heap.size X Y) : PartAt V U G u0 u1 u2 v0 v1 v2 Y := by
  obtain ⟨c0, c1, c2, c3, c4, d0, d1, d2, d3, d4, s0, s1, s2⟩ := h
  exact ⟨cellB hb c0, cellB hb c1, cellB hb c2, cellB hb c3, cellB hb c4, cellB hb d0, cellB hb d1, cellB hb d2, cellB hb d3, cellB hb d4, cellB hb s0, cellB hb s1, cellB hb s2⟩
theorem intRow (W : World) (g : Nat) (hn : g = W.heap.size) (cs : Array Value) (i : Nat) : (W.alloc (.cells cs 3)).cell? ⟨g, i, none⟩ = cs[i]? := by
  subst hn; exact cell_of_row _ _ i cs _ (0, 0) (heap_alloc_new W _)

/-- stHolds answers b. -/
def HoldIs (o k u0 u1 u2 v0 v1 v2 : Int) (b : Bool) : Prop :=
  ∀ W : World, Hid (Errs W) → Calls Tryd.prog 34 #[.int .i64 o, .agg (plainC u0 u1 u2 ⟨#[]⟩ ⟨#[]⟩), .int .i64 k, .agg (plainC v0 v1 v2 ⟨#[]⟩ ⟨#[]⟩)] W (BoolPost b W)

set_option maxRecDepth 100000 in
set_option maxHeartbeats 4000000 in
theorem part_lo (k u0 u1 u2 v0 v1 v2 : Int) (u3 u4 v3 v4 : ByteArray) (hu3 : u3.size ≤ 2147483647) (hu4 : u4.size ≤ 2147483647) (hv3 : v3.size ≤ 2147483647) (hv4 : v4.size ≤ 2147483647) (w : World) (he : Hid (Errs w)) (hk : k < 1) :
    Calls Tryd.prog 10 #[.agg (plainC u0 u1 u2 u3 u4), .int .i64 k, .agg (plainC v0 v1 v2 v3 v4)] w (BoolPost true w) := by
  go_enter Tryd.func10, Tryd.ntmps10
  go_wp2_with fail
  refine (fits14_any u0 u1 u2 u3 u4 true (by simp; omega) _).mono ?_
  rintro e w1 ⟨rfl, rfl⟩
  go_wp2_with fail
  refine (fits14_any v0 v1 v2 v3 v4 true (by simp; omega) _).mono ?_
  rintro e w1 ⟨rfl, rfl⟩
  go_wp2_with fail
  refine (stBare_lo k u0 u1 u2 v0 v1 v2 u3 u4 v3 v4 hk _).mono ?_
  rintro e w1 ⟨rfl, hb⟩
  have A1 : PlainAt w1 w.heap.size (plainC u0 u1 u2 u3 u4) := (hb.block _ (by simp <;> omega)).trans ((((plainAt_last w _ _ rfl).alloc _).alloc _).alloc _)
  have B1 : PlainAt w1 (w.heap.size + 1) (plainC v0 v1 v2 v3 v4) := (hb.block _ (by simp <;> omega)).trans (((plainAt_last (w.alloc _) _ _ (by simp)).alloc _).alloc _)
  have n1 : w.heap.size + 2 ≤ w1.heap.size := by have := hb.size; simp at this; omega
  have b1 : Below w.heap.size w w1 := Below.trans (by repeat (first | (with_reducible assumption) | (with_reducible exact Below.refl _ _) | (with_reducible refine below_drewN ?_ _) | (with_reducible refine Below.drew ?_) | (with_reducible refine Below.setCell ?_ (by first | omega | (simp <;> omega)) _) | (with_reducible refine Below.alloc ?_ (by first | omega | (simp <;> omega)) _))) (hb.mono (by simp <;> omega))
  clear hb
  have c0 : w1.cell? ⟨w.heap.size, 0, none⟩ = some (.int .u64 u0) := A1.cell 0
  have fc0 := A1.free5 0
  have c1 : w1.cell? ⟨w.heap.size, 1, none⟩ = some (.int .u64 u1) := A1.cell 1
  have fc1 := A1.free5 1
  have c2 : w1.cell? ⟨w.heap.size, 2, none⟩ = some (.int .u64 u2) := A1.cell 2
  have fc2 := A1.free5 2
  have c3 : w1.cell? ⟨w.heap.size, 3, none⟩ = some (.string u3) := A1.cell 3
  have fc3 := A1.free5 3
  have c4 : w1.cell? ⟨w.heap.size, 4, none⟩ = some (.string u4) := A1.cell 4
  have fc4 := A1.free5 4
  have d0 : w1.cell? ⟨w.heap.size + 1, 0, none⟩ = some (.int .u64 v0) := B1.cell 0
  have fd0 := B1.free5 0
  have d1 : w1.cell? ⟨w.heap.size + 1, 1, none⟩ = some (.int .u64 v1) := B1.cell 1
  have fd1 := B1.free5 1
  have d2 : w1.cell? ⟨w.heap.size + 1, 2, none⟩ = some (.int .u64 v2) := B1.cell 2
  have fd2 := B1.free5 2
  have d3 : w1.cell? ⟨w.heap.size + 1, 3, none⟩ = some (.string v3) := B1.cell 3
  have fd3 := B1.free5 3
  have d4 : w1.cell? ⟨w.heap.size + 1, 4, none⟩ = some (.string v4) := B1.cell 4
  have fd4 := B1.free5 4
  go_wp2_with fail
  go_ret
  exact ⟨rfl, (by repeat (first | (with_reducible assumption) | (with_reducible exact Below.refl _ _) | (with_reducible refine below_drewN ?_ _) | (with_reducible refine Below.drew ?_) | (with_reducible refine Below.setCell ?_ (by first | omega | (simp <;> omega)) _) | (with_reducible refine Below.alloc ?_ (by first | omega | (simp <;> omega)) _)))⟩

set_option maxRecDepth 100000 in
set_option maxHeartbeats 4000000 in
theorem part_hi (k u0 u1 u2 v0 v1 v2 : Int) (u3 u4 v3 v4 : ByteArray) (hu3 : u3.size ≤ 2147483647) (hu4 : u4.size ≤ 2147483647) (hv3 : v3.size ≤ 2147483647) (hv4 : v4.size ≤ 2147483647) (w : World) (he : Hid (Errs w)) (hk : 3 < k) :
    Calls Tryd.prog 10 #[.agg (plainC u0 u1 u2 u3 u4), .int .i64 k, .agg (plainC v0 v1 v2 v3 v4)] w (BoolPost true w) := by
  go_enter Tryd.func10, Tryd.ntmps10
  go_wp2_with fail
  refine (fits14_any u0 u1 u2 u3 u4 true (by simp; omega) _).mono ?_
  rintro e w1 ⟨rfl, rfl⟩
  go_wp2_with fail
  refine (fits14_any v0 v1 v2 v3 v4 true (by simp; omega) _).mono ?_
  rintro e w1 ⟨rfl, rfl⟩
  go_wp2_with fail
  refine (stBare_hi k u0 u1 u2 v0 v1 v2 u3 u4 v3 v4 hk _).mono ?_
  rintro e w1 ⟨rfl, hb⟩
  have A1 : PlainAt w1 w.heap.size (plainC u0 u1 u2 u3 u4) := (hb.block _ (by simp <;> omega)).trans ((((plainAt_last w _ _ rfl).alloc _).alloc _).alloc _)
  have B1 : PlainAt w1 (w.heap.size + 1) (plainC v0 v1 v2 v3 v4) := (hb.block _ (by simp <;> omega)).trans (((plainAt_last (w.alloc _) _ _ (by simp)).alloc _).alloc _)
  have n1 : w.heap.size + 2 ≤ w1.heap.size := by have := hb.size; simp at this; omega
  have b1 : Below w.heap.size w w1 := Below.trans (by repeat (first | (with_reducible assumption) | (with_reducible exact Below.refl _ _) | (with_reducible refine below_drewN ?_ _) | (with_reducible refine Below.drew ?_) | (with_reducible refine Below.setCell ?_ (by first | omega | (simp <;> omega)) _) | (with_reducible refine Below.alloc ?_ (by first | omega | (simp <;> omega)) _))) (hb.mono (by simp <;> omega))
  clear hb
  have c0 : w1.cell? ⟨w.heap.size, 0, none⟩ = some (.int .u64 u0) := A1.cell 0
  have fc0 := A1.free5 0
  have c1 : w1.cell? ⟨w.heap.size, 1, none⟩ = some (.int .u64 u1) := A1.cell 1
  have fc1 := A1.free5 1
  have c2 : w1.cell? ⟨w.heap.size, 2, none⟩ = some (.int .u64 u2) := A1.cell 2
  have fc2 := A1.free5 2
  have c3 : w1.cell? ⟨w.heap.size, 3, none⟩ = some (.string u3) := A1.cell 3
  have fc3 := A1.free5 3
  have c4 : w1.cell? ⟨w.heap.size, 4, none⟩ = some (.string u4) := A1.cell 4
  have fc4 := A1.free5 4
  have d0 : w1.cell? ⟨w.heap.size + 1, 0, none⟩ = some (.int .u64 v0) := B1.cell 0
  have fd0 := B1.free5 0
  have d1 : w1.cell? ⟨w.heap.size + 1, 1, none⟩ = some (.int .u64 v1) := B1.cell 1
  have fd1 := B1.free5 1
  have d2 : w1.cell? ⟨w.heap.size + 1, 2, none⟩ = some (.int .u64 v2) := B1.cell 2
  have fd2 := B1.free5 2
  have d3 : w1.cell? ⟨w.heap.size + 1, 3, none⟩ = some (.string v3) := B1.cell 3
  have fd3 := B1.free5 3
  have d4 : w1.cell? ⟨w.heap.size + 1, 4, none⟩ = some (.string v4) := B1.cell 4
  have fd4 := B1.free5 4
  go_wp2_with fail
  go_ret
  exact ⟨rfl, (by repeat (first | (with_reducible assumption) | (with_reducible exact Below.refl _ _) | (with_reducible refine below_drewN ?_ _) | (with_reducible refine Below.drew ?_) | (with_reducible refine Below.setCell ?_ (by first | omega | (simp <;> omega)) _) | (with_reducible refine Below.alloc ?_ (by first | omega | (simp <;> omega)) _)))⟩

set_option maxRecDepth 100000 in
set_option maxHeartbeats 4000000 in
theorem part_a (k u0 u1 u2 v0 v1 v2 : Int) (u3 u4 v3 v4 : ByteArray) (hu3 : u3.size ≤ 2147483647) (hu4 : u4.size ≤ 2147483647) (hv3 : v3.size ≤ 2147483647) (hv4 : v4.size ≤ 2147483647) (w : World) (he : Hid (Errs w)) (hk : 1 ≤ k ∧ k ≤ 3) (H0 : Hid (HoldIs 3 k u0 u1 u2 v0 v1 v2 true)) (H1 : Hid (HoldIs 0 k u0 u1 u2 v0 v1 v2 false)) (H2 : Hid (HoldIs 2 k u0 u1 u2 v0 v1 v2 false)) :
    Calls Tryd.prog 10 #[.agg (plainC u0 u1 u2 u3 u4), .int .i64 k, .agg (plainC v0 v1 v2 v3 v4)] w (BoolPost true w) := by
  go_enter Tryd.func10, Tryd.ntmps10
  go_wp2_with fail
  refine (fits14_any u0 u1 u2 u3 u4 true (by simp; omega) _).mono ?_
  rintro e w1 ⟨rfl, rfl⟩
  go_wp2_with fail
  refine (fits14_any v0 v1 v2 v3 v4 true (by simp; omega) _).mono ?_
  rintro e w1 ⟨rfl, rfl⟩
  go_wp2_with fail
  refine (stBare_in k u0 u1 u2 v0 v1 v2 u3 u4 v3 v4 hk _).mono ?_
  rintro e w1 ⟨rfl, hb⟩
  have A1 : PlainAt w1 w.heap.size (plainC u0 u1 u2 u3 u4) := (hb.block _ (by simp <;> omega)).trans ((((plainAt_last w _ _ rfl).alloc _).alloc _).alloc _)
  have B1 : PlainAt w1 (w.heap.size + 1) (plainC v0 v1 v2 v3 v4) := (hb.block _ (by simp <;> omega)).trans (((plainAt_last (w.alloc _) _ _ (by simp)).alloc _).alloc _)
  have n1 : w.heap.size + 2 ≤ w1.heap.size := by have := hb.size; simp at this; omega
  have b1 : Below w.heap.size w w1 := Below.trans (by repeat (first | (with_reducible assumption) | (with_reducible exact Below.refl _ _) | (with_reducible refine below_drewN ?_ _) | (with_reducible refine Below.drew ?_) | (with_reducible refine Below.setCell ?_ (by first | omega | (simp <;> omega)) _) | (with_reducible refine Below.alloc ?_ (by first | omega | (simp <;> omega)) _))) (hb.mono (by simp <;> omega))
  clear hb
  have c0 : w1.cell? ⟨w.heap.size, 0, none⟩ = some (.int .u64 u0) := A1.cell 0
  have fc0 := A1.free5 0
  have c1 : w1.cell? ⟨w.heap.size, 1, none⟩ = some (.int .u64 u1) := A1.cell 1
  have fc1 := A1.free5 1
  have c2 : w1.cell? ⟨w.heap.size, 2, none⟩ = some (.int .u64 u2) := A1.cell 2
  have fc2 := A1.free5 2
  have c3 : w1.cell? ⟨w.heap.size, 3, none⟩ = some (.string u3) := A1.cell 3
  have fc3 := A1.free5 3
  have c4 : w1.cell? ⟨w.heap.size, 4, none⟩ = some (.string u4) := A1.cell 4
  have fc4 := A1.free5 4
  have d0 : w1.cell? ⟨w.heap.size + 1, 0, none⟩ = some (.int .u64 v0) := B1.cell 0
  have fd0 := B1.free5 0
  have d1 : w1.cell? ⟨w.heap.size + 1, 1, none⟩ = some (.int .u64 v1) := B1.cell 1
  have fd1 := B1.free5 1
  have d2 : w1.cell? ⟨w.heap.size + 1, 2, none⟩ = some (.int .u64 v2) := B1.cell 2
  have fd2 := B1.free5 2
  have d3 : w1.cell? ⟨w.heap.size + 1, 3, none⟩ = some (.string v3) := B1.cell 3
  have fd3 := B1.free5 3
  have d4 : w1.cell? ⟨w.heap.size + 1, 4, none⟩ = some (.string v4) := B1.cell 4
  have fd4 := B1.free5 4
  go_wp2_with fail
  refine wp_named ?_
  intro W2 hW2
  have P2 : PartAt w.heap.size (w.heap.size + 1) w1.heap.size u0 u1 u2 v0 v1 v2 W2 := by
    rw [← hW2]
    refine ⟨?_, ?_, ?_, ?_, ?_, ?_, ?_, ?_, ?_, ?_, ?_, ?_, ?_⟩
    · refine keepV ?_; simp [go_sem, c0, c1, c2, c3, c4, d0, d1, d2, d3, d4]
    · refine keepV ?_; simp [go_sem, c0, c1, c2, c3, c4, d0, d1, d2, d3, d4]
    · refine keepV ?_; simp [go_sem, c0, c1, c2, c3, c4, d0, d1, d2, d3, d4]
    · refine keepV ?_; simp [go_sem, c0, c1, c2, c3, c4, d0, d1, d2, d3, d4]
    · refine keepV ?_; simp [go_sem, c0, c1, c2, c3, c4, d0, d1, d2, d3, d4]
    · refine keepV ?_; simp [go_sem, c0, c1, c2, c3, c4, d0, d1, d2, d3, d4]
    · refine keepV ?_; simp [go_sem, c0, c1, c2, c3, c4, d0, d1, d2, d3, d4]
    · refine keepV ?_; simp [go_sem, c0, c1, c2, c3, c4, d0, d1, d2, d3, d4]
    · refine keepV ?_; simp [go_sem, c0, c1, c2, c3, c4, d0, d1, d2, d3, d4]
    · refine keepV ?_; simp [go_sem, c0, c1, c2, c3, c4, d0, d1, d2, d3, d4]
    · exact intRow _ _ (by simp) _ 0
    · exact intRow _ _ (by simp) _ 1
    · exact intRow _ _ (by simp) _ 2
  have bk : Below w.heap.size w W2 := by rw [← hW2]; exact (by repeat (first | (with_reducible assumption) | (with_reducible exact Below.refl _ _) | (with_reducible refine below_drewN ?_ _) | (with_reducible refine Below.drew ?_) | (with_reducible refine Below.setCell ?_ (by first | omega | (simp <;> omega)) _) | (with_reducible refine Below.alloc ?_ (by first | omega | (simp <;> omega)) _)))
  clear hW2 A1 B1 b1 c0 fc0 d0 fd0 c1 fc1 d1 fd1 c2 fc2 d2 fd2 c3 fc3 d3 fd3 c4 fc4 d4 fd4
  generalize w1.heap.size = G at *
  go_loopw [8, 31] (fun n i wr => ((i = .int .i64 0 ∧ n = .int .i64 0) ∨ (i = .int .i64 1 ∧ n = .int .i64 1) ∨ (i = .int .i64 2 ∧ n = .int .i64 1) ∨ (i = .int .i64 3 ∧ n = .int .i64 1)) ∧ Hid (PartAt w.heap.size (w.heap.size + 1) G u0 u1 u2 v0 v1 v2 wr) ∧ Below w.heap.size w wr) (fun n i _ => 3 - (intOf i).toNat)
  case atStart => exact ⟨.inl ⟨rfl, rfl⟩, P2, bk⟩
  case round =>
    obtain ⟨hj, hP, hbr⟩ := hrel
    clear P2
    rcases hj with ⟨rfl, rfl⟩ | ⟨rfl, rfl⟩ | ⟨rfl, rfl⟩ | ⟨rfl, rfl⟩
    · obtain ⟨c0, c1, c2, c3, c4, d0, d1, d2, d3, d4, s0, s1, s2⟩ := hP.out
      go_wp2_with fail
      refine (H0.out _ (he.below hbr)).mono ?_
      rintro e w' ⟨rfl, hb⟩
      have hP2 := Lib.hid (hP.out.below hb)
      clear hP c0 c1 c2 c3 c4 d0 d1 d2 d3 d4 s0 s1 s2
      obtain ⟨c0, c1, c2, c3, c4, d0, d1, d2, d3, d4, s0, s1, s2⟩ := hP2.out
      have bk2 : Below w.heap.size w w' := hbr.trans (hb.mono hbr.size)
      go_wp2_with fail
      go_roundw
      case rel => exact ⟨(.inr (.inl ⟨by go_num, by go_num⟩)), hP2, bk2⟩
      case measure => simp [intOf]
    · obtain ⟨c0, c1, c2, c3, c4, d0, d1, d2, d3, d4, s0, s1, s2⟩ := hP.out
      go_wp2_with fail
      refine (H1.out _ (he.below hbr)).mono ?_
      rintro e w' ⟨rfl, hb⟩
      have hP2 := Lib.hid (hP.out.below hb)
      clear hP c0 c1 c2 c3 c4 d0 d1 d2 d3 d4 s0 s1 s2
      obtain ⟨c0, c1, c2, c3, c4, d0, d1, d2, d3, d4, s0, s1, s2⟩ := hP2.out
      have bk2 : Below w.heap.size w w' := hbr.trans (hb.mono hbr.size)
      go_wp2_with fail
      go_roundw
      case rel => exact ⟨(.inr (.inr (.inl ⟨by go_num, by go_num⟩))), hP2, bk2⟩
      case measure => simp [intOf]
    · obtain ⟨c0, c1, c2, c3, c4, d0, d1, d2, d3, d4, s0, s1, s2⟩ := hP.out
      go_wp2_with fail
      refine (H2.out _ (he.below hbr)).mono ?_
      rintro e w' ⟨rfl, hb⟩
      have hP2 := Lib.hid (hP.out.below hb)
      clear hP c0 c1 c2 c3 c4 d0 d1 d2 d3 d4 s0 s1 s2
      obtain ⟨c0, c1, c2, c3, c4, d0, d1, d2, d3, d4, s0, s1, s2⟩ := hP2.out
      have bk2 : Below w.heap.size w w' := hbr.trans (hb.mono hbr.size)
      go_wp2_with fail
      go_roundw
      case rel => exact ⟨(.inr (.inr (.inr ⟨by go_num, by go_num⟩))), hP2, bk2⟩
      case measure => simp [intOf]
    · go_wp2_with fail
      go_ret
      exact ⟨rfl, hbr⟩

set_option maxRecDepth 100000 in
set_option maxHeartbeats 4000000 in
theorem part_b (k u0 u1 u2 v0 v1 v2 : Int) (u3 u4 v3 v4 : ByteArray) (hu3 : u3.size ≤ 2147483647) (hu4 : u4.size ≤ 2147483647) (hv3 : v3.size ≤ 2147483647) (hv4 : v4.size ≤ 2147483647) (w : World) (he : Hid (Errs w)) (hk : 1 ≤ k ∧ k ≤ 3) (H0 : Hid (HoldIs 3 k u0 u1 u2 v0 v1 v2 false)) (H1 : Hid (HoldIs 0 k u0 u1 u2 v0 v1 v2 true)) (H2 : Hid (HoldIs 2 k u0 u1 u2 v0 v1 v2 false)) :
    Calls Tryd.prog 10 #[.agg (plainC u0 u1 u2 u3 u4), .int .i64 k, .agg (plainC v0 v1 v2 v3 v4)] w (BoolPost true w) := by
  go_enter Tryd.func10, Tryd.ntmps10
  go_wp2_with fail
  refine (fits14_any u0 u1 u2 u3 u4 true (by simp; omega) _).mono ?_
  rintro e w1 ⟨rfl, rfl⟩
  go_wp2_with fail
  refine (fits14_any v0 v1 v2 v3 v4 true (by simp; omega) _).mono ?_
  rintro e w1 ⟨rfl, rfl⟩
  go_wp2_with fail
  refine (stBare_in k u0 u1 u2 v0 v1 v2 u3 u4 v3 v4 hk _).mono ?_
  rintro e w1 ⟨rfl, hb⟩
  have A1 : PlainAt w1 w.heap.size (plainC u0 u1 u2 u3 u4) := (hb.block _ (by simp <;> omega)).trans ((((plainAt_last w _ _ rfl).alloc _).alloc _).alloc _)
  have B1 : PlainAt w1 (w.heap.size + 1) (plainC v0 v1 v2 v3 v4) := (hb.block _ (by simp <;> omega)).trans (((plainAt_last (w.alloc _) _ _ (by simp)).alloc _).alloc _)
  have n1 : w.heap.size + 2 ≤ w1.heap.size := by have := hb.size; simp at this; omega
  have b1 : Below w.heap.size w w1 := Below.trans (by repeat (first | (with_reducible assumption) | (with_reducible exact Below.refl _ _) | (with_reducible refine below_drewN ?_ _) | (with_reducible refine Below.drew ?_) | (with_reducible refine Below.setCell ?_ (by first | omega | (simp <;> omega)) _) | (with_reducible refine Below.alloc ?_ (by first | omega | (simp <;> omega)) _))) (hb.mono (by simp <;> omega))
  clear hb
  have c0 : w1.cell? ⟨w.heap.size, 0, none⟩ = some (.int .u64 u0) := A1.cell 0
  have fc0 := A1.free5 0
  have c1 : w1.cell? ⟨w.heap.size, 1, none⟩ = some (.int .u64 u1) := A1.cell 1
  have fc1 := A1.free5 1
  have c2 : w1.cell? ⟨w.heap.size, 2, none⟩ = some (.int .u64 u2) := A1.cell 2
  have fc2 := A1.free5 2
  have c3 : w1.cell? ⟨w.heap.size, 3, none⟩ = some (.string u3) := A1.cell 3
  have fc3 := A1.free5 3
  have c4 : w1.cell? ⟨w.heap.size, 4, none⟩ = some (.string u4) := A1.cell 4
  have fc4 := A1.free5 4
  have d0 : w1.cell? ⟨w.heap.size + 1, 0, none⟩ = some (.int .u64 v0) := B1.cell 0
  have fd0 := B1.free5 0
  have d1 : w1.cell? ⟨w.heap.size + 1, 1, none⟩ = some (.int .u64 v1) := B1.cell 1
  have fd1 := B1.free5 1
  have d2 : w1.cell? ⟨w.heap.size + 1, 2, none⟩ = some (.int .u64 v2) := B1.cell 2
  have fd2 := B1.free5 2
  have d3 : w1.cell? ⟨w.heap.size + 1, 3, none⟩ = some (.string v3) := B1.cell 3
  have fd3 := B1.free5 3
  have d4 : w1.cell? ⟨w.heap.size + 1, 4, none⟩ = some (.string v4) := B1.cell 4
  have fd4 := B1.free5 4
  go_wp2_with fail
  refine wp_named ?_
  intro W2 hW2
  have P2 : PartAt w.heap.size (w.heap.size + 1) w1.heap.size u0 u1 u2 v0 v1 v2 W2 := by
    rw [← hW2]
    refine ⟨?_, ?_, ?_, ?_, ?_, ?_, ?_, ?_, ?_, ?_, ?_, ?_, ?_⟩
    · refine keepV ?_; simp [go_sem, c0, c1, c2, c3, c4, d0, d1, d2, d3, d4]
    · refine keepV ?_; simp [go_sem, c0, c1, c2, c3, c4, d0, d1, d2, d3, d4]
    · refine keepV ?_; simp [go_sem, c0, c1, c2, c3, c4, d0, d1, d2, d3, d4]
    · refine keepV ?_; simp [go_sem, c0, c1, c2, c3, c4, d0, d1, d2, d3, d4]
    · refine keepV ?_; simp [go_sem, c0, c1, c2, c3, c4, d0, d1, d2, d3, d4]
    · refine keepV ?_; simp [go_sem, c0, c1, c2, c3, c4, d0, d1, d2, d3, d4]
    · refine keepV ?_; simp [go_sem, c0, c1, c2, c3, c4, d0, d1, d2, d3, d4]
    · refine keepV ?_; simp [go_sem, c0, c1, c2, c3, c4, d0, d1, d2, d3, d4]
    · refine keepV ?_; simp [go_sem, c0, c1, c2, c3, c4, d0, d1, d2, d3, d4]
    · refine keepV ?_; simp [go_sem, c0, c1, c2, c3, c4, d0, d1, d2, d3, d4]
    · exact intRow _ _ (by simp) _ 0
    · exact intRow _ _ (by simp) _ 1
    · exact intRow _ _ (by simp) _ 2
  have bk : Below w.heap.size w W2 := by rw [← hW2]; exact (by repeat (first | (with_reducible assumption) | (with_reducible exact Below.refl _ _) | (with_reducible refine below_drewN ?_ _) | (with_reducible refine Below.drew ?_) | (with_reducible refine Below.setCell ?_ (by first | omega | (simp <;> omega)) _) | (with_reducible refine Below.alloc ?_ (by first | omega | (simp <;> omega)) _)))
  clear hW2 A1 B1 b1 c0 fc0 d0 fd0 c1 fc1 d1 fd1 c2 fc2 d2 fd2 c3 fc3 d3 fd3 c4 fc4 d4 fd4
  generalize w1.heap.size = G at *
  go_loopw [8, 31] (fun n i wr => ((i = .int .i64 0 ∧ n = .int .i64 0) ∨ (i = .int .i64 1 ∧ n = .int .i64 0) ∨ (i = .int .i64 2 ∧ n = .int .i64 1) ∨ (i = .int .i64 3 ∧ n = .int .i64 1)) ∧ Hid (PartAt w.heap.size (w.heap.size + 1) G u0 u1 u2 v0 v1 v2 wr) ∧ Below w.heap.size w wr) (fun n i _ => 3 - (intOf i).toNat)
  case atStart => exact ⟨.inl ⟨rfl, rfl⟩, P2, bk⟩
  case round =>
    obtain ⟨hj, hP, hbr⟩ := hrel
    clear P2
    rcases hj with ⟨rfl, rfl⟩ | ⟨rfl, rfl⟩ | ⟨rfl, rfl⟩ | ⟨rfl, rfl⟩
    · obtain ⟨c0, c1, c2, c3, c4, d0, d1, d2, d3, d4, s0, s1, s2⟩ := hP.out
      go_wp2_with fail
      refine (H0.out _ (he.below hbr)).mono ?_
      rintro e w' ⟨rfl, hb⟩
      have hP2 := Lib.hid (hP.out.below hb)
      clear hP c0 c1 c2 c3 c4 d0 d1 d2 d3 d4 s0 s1 s2
      obtain ⟨c0, c1, c2, c3, c4, d0, d1, d2, d3, d4, s0, s1, s2⟩ := hP2.out
      have bk2 : Below w.heap.size w w' := hbr.trans (hb.mono hbr.size)
      go_wp2_with fail
      go_roundw
      case rel => exact ⟨(.inr (.inl ⟨by go_num, by go_num⟩)), hP2, bk2⟩
      case measure => simp [intOf]
    · obtain ⟨c0, c1, c2, c3, c4, d0, d1, d2, d3, d4, s0, s1, s2⟩ := hP.out
      go_wp2_with fail
      refine (H1.out _ (he.below hbr)).mono ?_
      rintro e w' ⟨rfl, hb⟩
      have hP2 := Lib.hid (hP.out.below hb)
      clear hP c0 c1 c2 c3 c4 d0 d1 d2 d3 d4 s0 s1 s2
      obtain ⟨c0, c1, c2, c3, c4, d0, d1, d2, d3, d4, s0, s1, s2⟩ := hP2.out
      have bk2 : Below w.heap.size w w' := hbr.trans (hb.mono hbr.size)
      go_wp2_with fail
      go_roundw
      case rel => exact ⟨(.inr (.inr (.inl ⟨by go_num, by go_num⟩))), hP2, bk2⟩
      case measure => simp [intOf]
    · obtain ⟨c0, c1, c2, c3, c4, d0, d1, d2, d3, d4, s0, s1, s2⟩ := hP.out
      go_wp2_with fail
      refine (H2.out _ (he.below hbr)).mono ?_
      rintro e w' ⟨rfl, hb⟩
      have hP2 := Lib.hid (hP.out.below hb)
      clear hP c0 c1 c2 c3 c4 d0 d1 d2 d3 d4 s0 s1 s2
      obtain ⟨c0, c1, c2, c3, c4, d0, d1, d2, d3, d4, s0, s1, s2⟩ := hP2.out
      have bk2 : Below w.heap.size w w' := hbr.trans (hb.mono hbr.size)
      go_wp2_with fail
      go_roundw
      case rel => exact ⟨(.inr (.inr (.inr ⟨by go_num, by go_num⟩))), hP2, bk2⟩
      case measure => simp [intOf]
    · go_wp2_with fail
      go_ret
      exact ⟨rfl, hbr⟩

set_option maxRecDepth 100000 in
set_option maxHeartbeats 4000000 in
theorem part_c (k u0 u1 u2 v0 v1 v2 : Int) (u3 u4 v3 v4 : ByteArray) (hu3 : u3.size ≤ 2147483647) (hu4 : u4.size ≤ 2147483647) (hv3 : v3.size ≤ 2147483647) (hv4 : v4.size ≤ 2147483647) (w : World) (he : Hid (Errs w)) (hk : 1 ≤ k ∧ k ≤ 3) (H0 : Hid (HoldIs 3 k u0 u1 u2 v0 v1 v2 false)) (H1 : Hid (HoldIs 0 k u0 u1 u2 v0 v1 v2 false)) (H2 : Hid (HoldIs 2 k u0 u1 u2 v0 v1 v2 true)) :
    Calls Tryd.prog 10 #[.agg (plainC u0 u1 u2 u3 u4), .int .i64 k, .agg (plainC v0 v1 v2 v3 v4)] w (BoolPost true w) := by
  go_enter Tryd.func10, Tryd.ntmps10
  go_wp2_with fail
  refine (fits14_any u0 u1 u2 u3 u4 true (by simp; omega) _).mono ?_
  rintro e w1 ⟨rfl, rfl⟩
  go_wp2_with fail
  refine (fits14_any v0 v1 v2 v3 v4 true (by simp; omega) _).mono ?_
  rintro e w1 ⟨rfl, rfl⟩
  go_wp2_with fail
  refine (stBare_in k u0 u1 u2 v0 v1 v2 u3 u4 v3 v4 hk _).mono ?_
  rintro e w1 ⟨rfl, hb⟩
  have A1 : PlainAt w1 w.heap.size (plainC u0 u1 u2 u3 u4) := (hb.block _ (by simp <;> omega)).trans ((((plainAt_last w _ _ rfl).alloc _).alloc _).alloc _)
  have B1 : PlainAt w1 (w.heap.size + 1) (plainC v0 v1 v2 v3 v4) := (hb.block _ (by simp <;> omega)).trans (((plainAt_last (w.alloc _) _ _ (by simp)).alloc _).alloc _)
  have n1 : w.heap.size + 2 ≤ w1.heap.size := by have := hb.size; simp at this; omega
  have b1 : Below w.heap.size w w1 := Below.trans (by repeat (first | (with_reducible assumption) | (with_reducible exact Below.refl _ _) | (with_reducible refine below_drewN ?_ _) | (with_reducible refine Below.drew ?_) | (with_reducible refine Below.setCell ?_ (by first | omega | (simp <;> omega)) _) | (with_reducible refine Below.alloc ?_ (by first | omega | (simp <;> omega)) _))) (hb.mono (by simp <;> omega))
  clear hb
  have c0 : w1.cell? ⟨w.heap.size, 0, none⟩ = some (.int .u64 u0) := A1.cell 0
  have fc0 := A1.free5 0
  have c1 : w1.cell? ⟨w.heap.size, 1, none⟩ = some (.int .u64 u1) := A1.cell 1
  have fc1 := A1.free5 1
  have c2 : w1.cell? ⟨w.heap.size, 2, none⟩ = some (.int .u64 u2) := A1.cell 2
  have fc2 := A1.free5 2
  have c3 : w1.cell? ⟨w.heap.size, 3, none⟩ = some (.string u3) := A1.cell 3
  have fc3 := A1.free5 3
  have c4 : w1.cell? ⟨w.heap.size, 4, none⟩ = some (.string u4) := A1.cell 4
  have fc4 := A1.free5 4
  have d0 : w1.cell? ⟨w.heap.size + 1, 0, none⟩ = some (.int .u64 v0) := B1.cell 0
  have fd0 := B1.free5 0
  have d1 : w1.cell? ⟨w.heap.size + 1, 1, none⟩ = some (.int .u64 v1) := B1.cell 1
  have fd1 := B1.free5 1
  have d2 : w1.cell? ⟨w.heap.size + 1, 2, none⟩ = some (.int .u64 v2) := B1.cell 2
  have fd2 := B1.free5 2
  have d3 : w1.cell? ⟨w.heap.size + 1, 3, none⟩ = some (.string v3) := B1.cell 3
  have fd3 := B1.free5 3
  have d4 : w1.cell? ⟨w.heap.size + 1, 4, none⟩ = some (.string v4) := B1.cell 4
  have fd4 := B1.free5 4
  go_wp2_with fail
  refine wp_named ?_
  intro W2 hW2
  have P2 : PartAt w.heap.size (w.heap.size + 1) w1.heap.size u0 u1 u2 v0 v1 v2 W2 := by
    rw [← hW2]
    refine ⟨?_, ?_, ?_, ?_, ?_, ?_, ?_, ?_, ?_, ?_, ?_, ?_, ?_⟩
    · refine keepV ?_; simp [go_sem, c0, c1, c2, c3, c4, d0, d1, d2, d3, d4]
    · refine keepV ?_; simp [go_sem, c0, c1, c2, c3, c4, d0, d1, d2, d3, d4]
    · refine keepV ?_; simp [go_sem, c0, c1, c2, c3, c4, d0, d1, d2, d3, d4]
    · refine keepV ?_; simp [go_sem, c0, c1, c2, c3, c4, d0, d1, d2, d3, d4]
    · refine keepV ?_; simp [go_sem, c0, c1, c2, c3, c4, d0, d1, d2, d3, d4]
    · refine keepV ?_; simp [go_sem, c0, c1, c2, c3, c4, d0, d1, d2, d3, d4]
    · refine keepV ?_; simp [go_sem, c0, c1, c2, c3, c4, d0, d1, d2, d3, d4]
    · refine keepV ?_; simp [go_sem, c0, c1, c2, c3, c4, d0, d1, d2, d3, d4]
    · refine keepV ?_; simp [go_sem, c0, c1, c2, c3, c4, d0, d1, d2, d3, d4]
    · refine keepV ?_; simp [go_sem, c0, c1, c2, c3, c4, d0, d1, d2, d3, d4]
    · exact intRow _ _ (by simp) _ 0
    · exact intRow _ _ (by simp) _ 1
    · exact intRow _ _ (by simp) _ 2
  have bk : Below w.heap.size w W2 := by rw [← hW2]; exact (by repeat (first | (with_reducible assumption) | (with_reducible exact Below.refl _ _) | (with_reducible refine below_drewN ?_ _) | (with_reducible refine Below.drew ?_) | (with_reducible refine Below.setCell ?_ (by first | omega | (simp <;> omega)) _) | (with_reducible refine Below.alloc ?_ (by first | omega | (simp <;> omega)) _)))
  clear hW2 A1 B1 b1 c0 fc0 d0 fd0 c1 fc1 d1 fd1 c2 fc2 d2 fd2 c3 fc3 d3 fd3 c4 fc4 d4 fd4
  generalize w1.heap.size = G at *
  go_loopw [8, 31] (fun n i wr => ((i = .int .i64 0 ∧ n = .int .i64 0) ∨ (i = .int .i64 1 ∧ n = .int .i64 0) ∨ (i = .int .i64 2 ∧ n = .int .i64 0) ∨ (i = .int .i64 3 ∧ n = .int .i64 1)) ∧ Hid (PartAt w.heap.size (w.heap.size + 1) G u0 u1 u2 v0 v1 v2 wr) ∧ Below w.heap.size w wr) (fun n i _ => 3 - (intOf i).toNat)
  case atStart => exact ⟨.inl ⟨rfl, rfl⟩, P2, bk⟩
  case round =>
    obtain ⟨hj, hP, hbr⟩ := hrel
    clear P2
    rcases hj with ⟨rfl, rfl⟩ | ⟨rfl, rfl⟩ | ⟨rfl, rfl⟩ | ⟨rfl, rfl⟩
    · obtain ⟨c0, c1, c2, c3, c4, d0, d1, d2, d3, d4, s0, s1, s2⟩ := hP.out
      go_wp2_with fail
      refine (H0.out _ (he.below hbr)).mono ?_
      rintro e w' ⟨rfl, hb⟩
      have hP2 := Lib.hid (hP.out.below hb)
      clear hP c0 c1 c2 c3 c4 d0 d1 d2 d3 d4 s0 s1 s2
      obtain ⟨c0, c1, c2, c3, c4, d0, d1, d2, d3, d4, s0, s1, s2⟩ := hP2.out
      have bk2 : Below w.heap.size w w' := hbr.trans (hb.mono hbr.size)
      go_wp2_with fail
      go_roundw
      case rel => exact ⟨(.inr (.inl ⟨by go_num, by go_num⟩)), hP2, bk2⟩
      case measure => simp [intOf]
    · obtain ⟨c0, c1, c2, c3, c4, d0, d1, d2, d3, d4, s0, s1, s2⟩ := hP.out
      go_wp2_with fail
      refine (H1.out _ (he.below hbr)).mono ?_
      rintro e w' ⟨rfl, hb⟩
      have hP2 := Lib.hid (hP.out.below hb)
      clear hP c0 c1 c2 c3 c4 d0 d1 d2 d3 d4 s0 s1 s2
      obtain ⟨c0, c1, c2, c3, c4, d0, d1, d2, d3, d4, s0, s1, s2⟩ := hP2.out
      have bk2 : Below w.heap.size w w' := hbr.trans (hb.mono hbr.size)
      go_wp2_with fail
      go_roundw
      case rel => exact ⟨(.inr (.inr (.inl ⟨by go_num, by go_num⟩))), hP2, bk2⟩
      case measure => simp [intOf]
    · obtain ⟨c0, c1, c2, c3, c4, d0, d1, d2, d3, d4, s0, s1, s2⟩ := hP.out
      go_wp2_with fail
      refine (H2.out _ (he.below hbr)).mono ?_
      rintro e w' ⟨rfl, hb⟩
      have hP2 := Lib.hid (hP.out.below hb)
      clear hP c0 c1 c2 c3 c4 d0 d1 d2 d3 d4 s0 s1 s2
      obtain ⟨c0, c1, c2, c3, c4, d0, d1, d2, d3, d4, s0, s1, s2⟩ := hP2.out
      have bk2 : Below w.heap.size w w' := hbr.trans (hb.mono hbr.size)
      go_wp2_with fail
      go_roundw
      case rel => exact ⟨(.inr (.inr (.inr ⟨by go_num, by go_num⟩))), hP2, bk2⟩
      case measure => simp [intOf]
    · go_wp2_with fail
      go_ret
      exact ⟨rfl, hbr⟩

end Go.Proofs.YtdlpcfhhpjjjmaaDoor
