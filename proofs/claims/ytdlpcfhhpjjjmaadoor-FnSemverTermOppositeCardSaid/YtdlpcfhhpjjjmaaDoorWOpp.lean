/- laws.FnSemverTermOpposite over what the six operators answer. -/
import Derived.Test.YtdlpcfhhpjjjmaaDoorStHolds
import Derived.Test.YtdlpcfhhpjjjmaaDoorSvGoods
import Derived.Test.YtdlpcfhhpjjjmaaDoorLaidErr
import Derived.Test.YtdlpcfhhpjjjmaaDoorWPre
namespace Go.Proofs.YtdlpcfhhpjjjmaaDoor
open Go.RowKit
set_option linter.unusedVariables false
set_option linter.unusedSimpArgs false

/-- stHolds answers b. -/
def HoldIsG (o k u0 u1 u2 v0 v1 v2 : Int) (u3 u4 v3 v4 : ByteArray) (b : Bool) : Prop :=
  ∀ W : World, Hid (Errs W) → Calls Tryd.prog 34 #[.int .i64 o, .agg (plainC u0 u1 u2 u3 u4), .int .i64 k, .agg (plainC v0 v1 v2 v3 v4)] W (BoolPost b W)

set_option maxRecDepth 100000 in
set_option maxHeartbeats 8000000 in
theorem opp_lo (k u0 u1 u2 v0 v1 v2 : Int) (u3 u4 v3 v4 : ByteArray) (hu3 : u3.size ≤ 2147483647) (hu4 : u4.size ≤ 2147483647) (hv3 : v3.size ≤ 2147483647) (hv4 : v4.size ≤ 2147483647) (w : World) (he : Hid (Errs w)) (hk : k < 1) :
    Calls Tryd.prog 9 #[.agg (plainC u0 u1 u2 u3 u4), .int .i64 k, .agg (plainC v0 v1 v2 v3 v4)] w (BoolPost true w) := by
  have i1 : (k < 1) = True := by simp; omega
  go_enter Tryd.func9, Tryd.ntmps9
  go_wp2_with fail
  refine (fits14_any u0 u1 u2 u3 u4 true (by simp; omega) _).mono ?_
  rintro e w1 ⟨rfl, rfl⟩
  go_wp2_with fail
  refine (fits14_any v0 v1 v2 v3 v4 true (by simp; omega) _).mono ?_
  rintro e w1 ⟨rfl, rfl⟩
  go_wp2_with fail
  go_ret
  exact ⟨rfl, (by repeat (first | (with_reducible assumption) | (with_reducible exact Below.refl _ _) | (with_reducible refine below_drewN ?_ _) | (with_reducible refine Below.drew ?_) | (with_reducible refine Below.setCell ?_ (by first | omega | (simp <;> omega)) _) | (with_reducible refine Below.alloc ?_ (by first | omega | (simp <;> omega)) _)))⟩

set_option maxRecDepth 100000 in
set_option maxHeartbeats 8000000 in
theorem opp_hi (k u0 u1 u2 v0 v1 v2 : Int) (u3 u4 v3 v4 : ByteArray) (hu3 : u3.size ≤ 2147483647) (hu4 : u4.size ≤ 2147483647) (hv3 : v3.size ≤ 2147483647) (hv4 : v4.size ≤ 2147483647) (w : World) (he : Hid (Errs w)) (hk : 3 < k) :
    Calls Tryd.prog 9 #[.agg (plainC u0 u1 u2 u3 u4), .int .i64 k, .agg (plainC v0 v1 v2 v3 v4)] w (BoolPost true w) := by
  have i1 : (k < 1) = False := by simp; omega
  have i2 : (3 < k) = True := by simp; omega
  go_enter Tryd.func9, Tryd.ntmps9
  go_wp2_with fail
  refine (fits14_any u0 u1 u2 u3 u4 true (by simp; omega) _).mono ?_
  rintro e w1 ⟨rfl, rfl⟩
  go_wp2_with fail
  refine (fits14_any v0 v1 v2 v3 v4 true (by simp; omega) _).mono ?_
  rintro e w1 ⟨rfl, rfl⟩
  go_wp2_with fail
  go_ret
  exact ⟨rfl, (by repeat (first | (with_reducible assumption) | (with_reducible exact Below.refl _ _) | (with_reducible refine below_drewN ?_ _) | (with_reducible refine Below.drew ?_) | (with_reducible refine Below.setCell ?_ (by first | omega | (simp <;> omega)) _) | (with_reducible refine Below.alloc ?_ (by first | omega | (simp <;> omega)) _)))⟩

set_option maxRecDepth 100000 in
set_option maxHeartbeats 8000000 in
theorem opp_pre (k u0 u1 u2 v0 v1 v2 : Int) (u3 u4 v3 v4 : ByteArray) (hu3 : u3.size ≤ 2147483647) (hu4 : u4.size ≤ 2147483647) (hv3 : v3.size ≤ 2147483647) (hv4 : v4.size ≤ 2147483647) (w : World) (he : Hid (Errs w)) (hk : 1 ≤ k ∧ k < 3) (hp : v3.toList.isEmpty = false) :
    Calls Tryd.prog 9 #[.agg (plainC u0 u1 u2 u3 u4), .int .i64 k, .agg (plainC v0 v1 v2 v3 v4)] w (BoolPost true w) := by
  have i1 : (k < 1) = False := by simp; omega
  have i2 : (3 < k) = False := by simp; omega
  have i3 : (k < 3) = True := by simp; omega
  clear hk
  go_enter Tryd.func9, Tryd.ntmps9
  go_wp2_with fail
  refine (fits14_any u0 u1 u2 u3 u4 true (by simp; omega) _).mono ?_
  rintro e w1 ⟨rfl, rfl⟩
  go_wp2_with fail
  refine (fits14_any v0 v1 v2 v3 v4 true (by simp; omega) _).mono ?_
  rintro e w1 ⟨rfl, rfl⟩
  go_wp2_with fail
  go_ret
  exact ⟨rfl, (by repeat (first | (with_reducible assumption) | (with_reducible exact Below.refl _ _) | (with_reducible refine below_drewN ?_ _) | (with_reducible refine Below.drew ?_) | (with_reducible refine Below.setCell ?_ (by first | omega | (simp <;> omega)) _) | (with_reducible refine Below.alloc ?_ (by first | omega | (simp <;> omega)) _)))⟩

set_option maxRecDepth 100000 in
set_option maxHeartbeats 8000000 in
theorem walk_3 (k u0 u1 u2 v0 v1 v2 : Int) (u3 u4 v3 v4 : ByteArray) (hu3 : u3.size ≤ 2147483647) (hu4 : u4.size ≤ 2147483647) (hv3 : v3.size ≤ 2147483647) (hv4 : v4.size ≤ 2147483647) (w : World) (he : Hid (Errs w)) (hk : k = 3) (A B C D E F : Bool) (hAB : (A != B) = true) (hCD : (C != D) = true) (hEF : (E != F) = true) (H0 : Hid (HoldIsG 0 k u0 u1 u2 v0 v1 v2 u3 u4 v3 v4 A)) (H1 : Hid (HoldIsG 1 k u0 u1 u2 v0 v1 v2 u3 u4 v3 v4 B)) (H2 : Hid (HoldIsG 2 k u0 u1 u2 v0 v1 v2 u3 u4 v3 v4 C)) (H5 : Hid (HoldIsG 5 k u0 u1 u2 v0 v1 v2 u3 u4 v3 v4 D)) (H3 : Hid (HoldIsG 3 k u0 u1 u2 v0 v1 v2 u3 u4 v3 v4 E)) (H4 : Hid (HoldIsG 4 k u0 u1 u2 v0 v1 v2 u3 u4 v3 v4 F)) :
    Calls Tryd.prog 9 #[.agg (plainC u0 u1 u2 u3 u4), .int .i64 k, .agg (plainC v0 v1 v2 v3 v4)] w (BoolPost true w) := by
  have i1 : (k < 1) = False := by simp; omega
  have i2 : (3 < k) = False := by simp; omega
  have i3 : (k < 3) = False := by simp; omega
  clear hk
  go_enter Tryd.func9, Tryd.ntmps9
  go_wp2_with fail
  refine (fits14_any u0 u1 u2 u3 u4 true (by simp; omega) _).mono ?_
  rintro e w1 ⟨rfl, rfl⟩
  go_wp2_with fail
  refine (fits14_any v0 v1 v2 v3 v4 true (by simp; omega) _).mono ?_
  rintro e w1 ⟨rfl, rfl⟩
  go_wp2_with fail
  refine (svGood_any _ 2 [(u0, u1, u2, u3, u4), (v0, v1, v2, v3, v4)] (by simp) (by simp) (fun i => by rcases i with _ | _ | i <;> first | exact ⟨hu3, hu4⟩ | exact ⟨hv3, hv4⟩ | exact ⟨Nat.zero_le _, Nat.zero_le _⟩) _ (by simp) (row2 _ _ (by simp) (u0, u1, u2, u3, u4) (v0, v1, v2, v3, v4))).mono ?_
  rintro e w1 ⟨rfl, hb⟩
  have A1 : PlainAt w1 w.heap.size (plainC u0 u1 u2 u3 u4) := (hb.block _ (by simp <;> omega)).trans (((((plainAt_last w _ _ rfl).alloc _).alloc _).alloc _).alloc _)
  have B1 : PlainAt w1 (w.heap.size + 1) (plainC v0 v1 v2 v3 v4) := (hb.block _ (by simp <;> omega)).trans ((((plainAt_last (w.alloc _) _ _ (by simp)).alloc _).alloc _).alloc _)
  have nk : w.heap.size + 2 ≤ w1.heap.size := by have := hb.size; simp at this; omega
  have bk : Below w.heap.size w w1 := Below.trans (by repeat (first | (with_reducible assumption) | (with_reducible exact Below.refl _ _) | (with_reducible refine below_drewN ?_ _) | (with_reducible refine Below.drew ?_) | (with_reducible refine Below.setCell ?_ (by first | omega | (simp <;> omega)) _) | (with_reducible refine Below.alloc ?_ (by first | omega | (simp <;> omega)) _))) (hb.mono (by simp <;> omega))
  clear hb
  have c0 : w1.cell? ⟨w.heap.size, 0, none⟩ = some (.int .u64 u0) := A1.cell 0
  have c1 : w1.cell? ⟨w.heap.size, 1, none⟩ = some (.int .u64 u1) := A1.cell 1
  have c2 : w1.cell? ⟨w.heap.size, 2, none⟩ = some (.int .u64 u2) := A1.cell 2
  have c3 : w1.cell? ⟨w.heap.size, 3, none⟩ = some (.string u3) := A1.cell 3
  have c4 : w1.cell? ⟨w.heap.size, 4, none⟩ = some (.string u4) := A1.cell 4
  have d0 : w1.cell? ⟨w.heap.size + 1, 0, none⟩ = some (.int .u64 v0) := B1.cell 0
  have d1 : w1.cell? ⟨w.heap.size + 1, 1, none⟩ = some (.int .u64 v1) := B1.cell 1
  have d2 : w1.cell? ⟨w.heap.size + 1, 2, none⟩ = some (.int .u64 v2) := B1.cell 2
  have d3 : w1.cell? ⟨w.heap.size + 1, 3, none⟩ = some (.string v3) := B1.cell 3
  have d4 : w1.cell? ⟨w.heap.size + 1, 4, none⟩ = some (.string v4) := B1.cell 4
  clear A1 B1
  generalize goodAll [(u0, u1, u2, u3, u4), (v0, v1, v2, v3, v4)] = bs
  cases bs with
  | false =>
    go_wp2_with fail
    go_ret
    exact ⟨rfl, (by repeat (first | (with_reducible assumption) | (with_reducible exact Below.refl _ _) | (with_reducible refine below_drewN ?_ _) | (with_reducible refine Below.drew ?_) | (with_reducible refine Below.setCell ?_ (by first | omega | (simp <;> omega)) _) | (with_reducible refine Below.alloc ?_ (by first | omega | (simp <;> omega)) _)))⟩
  | true =>
    go_wp2_with fail
    refine wp_region_held_drew (S := (fun w' => w'.cell? ⟨w.heap.size, 0, none⟩ = some (.int .u64 u0) ∧ w'.cell? ⟨w.heap.size, 1, none⟩ = some (.int .u64 u1) ∧ w'.cell? ⟨w.heap.size, 2, none⟩ = some (.int .u64 u2) ∧ w'.cell? ⟨w.heap.size, 3, none⟩ = some (.string u3) ∧ w'.cell? ⟨w.heap.size, 4, none⟩ = some (.string u4) ∧ w'.cell? ⟨w.heap.size + 1, 0, none⟩ = some (.int .u64 v0) ∧ w'.cell? ⟨w.heap.size + 1, 1, none⟩ = some (.int .u64 v1) ∧ w'.cell? ⟨w.heap.size + 1, 2, none⟩ = some (.int .u64 v2) ∧ w'.cell? ⟨w.heap.size + 1, 3, none⟩ = some (.string v3) ∧ w'.cell? ⟨w.heap.size + 1, 4, none⟩ = some (.string v4))) (by kernel_rfl) ?_ (fun hHeld => ?_)
    · (refine ⟨?_, ?_, ?_, ?_, ?_, ?_, ?_, ?_, ?_, ?_⟩ <;> (repeat (first | assumption | (with_reducible refine keepD ?_) | (with_reducible refine keepN ?_) | (with_reducible refine keepV ?_))))
    refine wpAnyH_take (i := 0) (v := ?_) rfl (by kernel_rfl) (by kernel_rfl) (by kernel_rfl) (fun _ _ _ h => h) (Or.inl ⟨by rfl, ?_⟩) (by assumption) ?_
    rotate_left
    · (intro w hSw; (try dsimp only at hSw); go_split_ands; go_simp; (try with_reducible rfl))
    (try simp only [Act.put, List.getElem_toArray, List.getElem_cons_zero, List.getElem_cons_succ, List.setIfInBounds_toArray, List.set_cons_zero, List.set_cons_succ])
    refine wpAnyH_take (i := 1) (v := ?_) rfl (by kernel_rfl) (by kernel_rfl) (by kernel_rfl) (fun _ _ _ h => h) (Or.inl ⟨by rfl, ?_⟩) (by assumption) ?_
    rotate_left
    · (intro w hSw; (try dsimp only at hSw); go_split_ands; go_simp; (try with_reducible rfl))
    (try simp only [Act.put, List.getElem_toArray, List.getElem_cons_zero, List.getElem_cons_succ, List.setIfInBounds_toArray, List.set_cons_zero, List.set_cons_succ])
    refine wpAnyH_take (i := 2) (v := ?_) rfl (by kernel_rfl) (by kernel_rfl) (by kernel_rfl) (fun _ _ _ h => h) (Or.inl ⟨by rfl, ?_⟩) (by assumption) ?_
    rotate_left
    · (intro w hSw; (try dsimp only at hSw); go_split_ands; go_simp; (try with_reducible rfl))
    (try simp only [Act.put, List.getElem_toArray, List.getElem_cons_zero, List.getElem_cons_succ, List.setIfInBounds_toArray, List.set_cons_zero, List.set_cons_succ])
    refine wpAnyH_take (i := 4) (v := ?_) rfl (by kernel_rfl) (by kernel_rfl) (by kernel_rfl) (fun _ _ _ h => h) (Or.inl ⟨by rfl, ?_⟩) (by assumption) ?_
    rotate_left
    · (intro w hSw; (try dsimp only at hSw); go_split_ands; go_simp; (try with_reducible rfl))
    (try simp only [Act.put, List.getElem_toArray, List.getElem_cons_zero, List.getElem_cons_succ, List.setIfInBounds_toArray, List.set_cons_zero, List.set_cons_succ])
    refine wpAnyH_take (i := 5) (v := ?_) rfl (by kernel_rfl) (by kernel_rfl) (by kernel_rfl) (fun _ _ _ h => h) (Or.inl ⟨by rfl, ?_⟩) (by assumption) ?_
    rotate_left
    · (intro w hSw; (try dsimp only at hSw); go_split_ands; go_simp; (try with_reducible rfl))
    (try simp only [Act.put, List.getElem_toArray, List.getElem_cons_zero, List.getElem_cons_succ, List.setIfInBounds_toArray, List.set_cons_zero, List.set_cons_succ])
    refine wpAnyH_take (i := 6) (v := ?_) rfl (by kernel_rfl) (by kernel_rfl) (by kernel_rfl) (fun _ _ _ h => h) (Or.inl ⟨by rfl, ?_⟩) (by assumption) ?_
    rotate_left
    · (intro w hSw; (try dsimp only at hSw); go_split_ands; go_simp; (try with_reducible rfl))
    (try simp only [Act.put, List.getElem_toArray, List.getElem_cons_zero, List.getElem_cons_succ, List.setIfInBounds_toArray, List.set_cons_zero, List.set_cons_succ])
    refine wpAnyH_ready (rs := [3]) (by kernel_rfl) (by simp) ?_
    refine AllReadyH.cons rfl (fun K hK => ?_) AllReadyH.nil
    go_simp
    (go_at_call 34; refine (H0.out _ (he.below (by repeat (first | (with_reducible assumption) | (with_reducible exact Below.refl _ _) | (with_reducible refine below_drewN ?_ _) | (with_reducible refine Below.drew ?_) | (with_reducible refine Below.setCell ?_ (by first | omega | (simp <;> omega)) _) | (with_reducible refine Below.alloc ?_ (by first | omega | (simp <;> omega)) _))))).mono ?_; rintro e w' ⟨rfl, hb⟩; have c0 : w'.cell? ⟨w.heap.size, 0, none⟩ = some (.int .u64 u0) := (by refine keepB hb (by first | omega | (simp <;> omega)) ?_; (repeat (first | assumption | (with_reducible refine keepD ?_) | (with_reducible refine keepN ?_) | (with_reducible refine keepV ?_)))); have c1 : w'.cell? ⟨w.heap.size, 1, none⟩ = some (.int .u64 u1) := (by refine keepB hb (by first | omega | (simp <;> omega)) ?_; (repeat (first | assumption | (with_reducible refine keepD ?_) | (with_reducible refine keepN ?_) | (with_reducible refine keepV ?_)))); have c2 : w'.cell? ⟨w.heap.size, 2, none⟩ = some (.int .u64 u2) := (by refine keepB hb (by first | omega | (simp <;> omega)) ?_; (repeat (first | assumption | (with_reducible refine keepD ?_) | (with_reducible refine keepN ?_) | (with_reducible refine keepV ?_)))); have c3 : w'.cell? ⟨w.heap.size, 3, none⟩ = some (.string u3) := (by refine keepB hb (by first | omega | (simp <;> omega)) ?_; (repeat (first | assumption | (with_reducible refine keepD ?_) | (with_reducible refine keepN ?_) | (with_reducible refine keepV ?_)))); have c4 : w'.cell? ⟨w.heap.size, 4, none⟩ = some (.string u4) := (by refine keepB hb (by first | omega | (simp <;> omega)) ?_; (repeat (first | assumption | (with_reducible refine keepD ?_) | (with_reducible refine keepN ?_) | (with_reducible refine keepV ?_)))); have d0 : w'.cell? ⟨w.heap.size + 1, 0, none⟩ = some (.int .u64 v0) := (by refine keepB hb (by first | omega | (simp <;> omega)) ?_; (repeat (first | assumption | (with_reducible refine keepD ?_) | (with_reducible refine keepN ?_) | (with_reducible refine keepV ?_)))); have d1 : w'.cell? ⟨w.heap.size + 1, 1, none⟩ = some (.int .u64 v1) := (by refine keepB hb (by first | omega | (simp <;> omega)) ?_; (repeat (first | assumption | (with_reducible refine keepD ?_) | (with_reducible refine keepN ?_) | (with_reducible refine keepV ?_)))); have d2 : w'.cell? ⟨w.heap.size + 1, 2, none⟩ = some (.int .u64 v2) := (by refine keepB hb (by first | omega | (simp <;> omega)) ?_; (repeat (first | assumption | (with_reducible refine keepD ?_) | (with_reducible refine keepN ?_) | (with_reducible refine keepV ?_)))); have d3 : w'.cell? ⟨w.heap.size + 1, 3, none⟩ = some (.string v3) := (by refine keepB hb (by first | omega | (simp <;> omega)) ?_; (repeat (first | assumption | (with_reducible refine keepD ?_) | (with_reducible refine keepN ?_) | (with_reducible refine keepV ?_)))); have d4 : w'.cell? ⟨w.heap.size + 1, 4, none⟩ = some (.string v4) := (by refine keepB hb (by first | omega | (simp <;> omega)) ?_; (repeat (first | assumption | (with_reducible refine keepD ?_) | (with_reducible refine keepN ?_) | (with_reducible refine keepV ?_)))); have bk : Below w.heap.size w w' := Below.trans (by repeat (first | (with_reducible assumption) | (with_reducible exact Below.refl _ _) | (with_reducible refine below_drewN ?_ _) | (with_reducible refine Below.drew ?_) | (with_reducible refine Below.setCell ?_ (by first | omega | (simp <;> omega)) _) | (with_reducible refine Below.alloc ?_ (by first | omega | (simp <;> omega)) _))) (hb.mono (by first | omega | (simp <;> omega))); have nk : w.heap.size + 2 ≤ w'.heap.size := (by have := hb.size; first | omega | (simp at this; omega)); clear hb)
    refine hK.out _ _ ?_ (fun hHeld => ?_)
    · (refine ⟨?_, ?_, ?_, ?_, ?_, ?_, ?_, ?_, ?_, ?_⟩ <;> (repeat (first | assumption | (with_reducible refine keepD ?_) | (with_reducible refine keepN ?_) | (with_reducible refine keepV ?_))))
    clear hK K
    (try simp only [Act.put, List.getElem_toArray, List.getElem_cons_zero, List.getElem_cons_succ, List.setIfInBounds_toArray, List.set_cons_zero, List.set_cons_succ])
    refine wpAnyH_ready (rs := [7]) (by kernel_rfl) (by simp) ?_
    refine AllReadyH.cons rfl (fun K hK => ?_) AllReadyH.nil
    go_simp
    (go_at_call 34; refine (H1.out _ (he.below (by repeat (first | (with_reducible assumption) | (with_reducible exact Below.refl _ _) | (with_reducible refine below_drewN ?_ _) | (with_reducible refine Below.drew ?_) | (with_reducible refine Below.setCell ?_ (by first | omega | (simp <;> omega)) _) | (with_reducible refine Below.alloc ?_ (by first | omega | (simp <;> omega)) _))))).mono ?_; rintro e w' ⟨rfl, hb⟩; have c0 : w'.cell? ⟨w.heap.size, 0, none⟩ = some (.int .u64 u0) := (by refine keepB hb (by first | omega | (simp <;> omega)) ?_; (repeat (first | assumption | (with_reducible refine keepD ?_) | (with_reducible refine keepN ?_) | (with_reducible refine keepV ?_)))); have c1 : w'.cell? ⟨w.heap.size, 1, none⟩ = some (.int .u64 u1) := (by refine keepB hb (by first | omega | (simp <;> omega)) ?_; (repeat (first | assumption | (with_reducible refine keepD ?_) | (with_reducible refine keepN ?_) | (with_reducible refine keepV ?_)))); have c2 : w'.cell? ⟨w.heap.size, 2, none⟩ = some (.int .u64 u2) := (by refine keepB hb (by first | omega | (simp <;> omega)) ?_; (repeat (first | assumption | (with_reducible refine keepD ?_) | (with_reducible refine keepN ?_) | (with_reducible refine keepV ?_)))); have c3 : w'.cell? ⟨w.heap.size, 3, none⟩ = some (.string u3) := (by refine keepB hb (by first | omega | (simp <;> omega)) ?_; (repeat (first | assumption | (with_reducible refine keepD ?_) | (with_reducible refine keepN ?_) | (with_reducible refine keepV ?_)))); have c4 : w'.cell? ⟨w.heap.size, 4, none⟩ = some (.string u4) := (by refine keepB hb (by first | omega | (simp <;> omega)) ?_; (repeat (first | assumption | (with_reducible refine keepD ?_) | (with_reducible refine keepN ?_) | (with_reducible refine keepV ?_)))); have d0 : w'.cell? ⟨w.heap.size + 1, 0, none⟩ = some (.int .u64 v0) := (by refine keepB hb (by first | omega | (simp <;> omega)) ?_; (repeat (first | assumption | (with_reducible refine keepD ?_) | (with_reducible refine keepN ?_) | (with_reducible refine keepV ?_)))); have d1 : w'.cell? ⟨w.heap.size + 1, 1, none⟩ = some (.int .u64 v1) := (by refine keepB hb (by first | omega | (simp <;> omega)) ?_; (repeat (first | assumption | (with_reducible refine keepD ?_) | (with_reducible refine keepN ?_) | (with_reducible refine keepV ?_)))); have d2 : w'.cell? ⟨w.heap.size + 1, 2, none⟩ = some (.int .u64 v2) := (by refine keepB hb (by first | omega | (simp <;> omega)) ?_; (repeat (first | assumption | (with_reducible refine keepD ?_) | (with_reducible refine keepN ?_) | (with_reducible refine keepV ?_)))); have d3 : w'.cell? ⟨w.heap.size + 1, 3, none⟩ = some (.string v3) := (by refine keepB hb (by first | omega | (simp <;> omega)) ?_; (repeat (first | assumption | (with_reducible refine keepD ?_) | (with_reducible refine keepN ?_) | (with_reducible refine keepV ?_)))); have d4 : w'.cell? ⟨w.heap.size + 1, 4, none⟩ = some (.string v4) := (by refine keepB hb (by first | omega | (simp <;> omega)) ?_; (repeat (first | assumption | (with_reducible refine keepD ?_) | (with_reducible refine keepN ?_) | (with_reducible refine keepV ?_)))); have bk : Below w.heap.size w w' := Below.trans (by repeat (first | (with_reducible assumption) | (with_reducible exact Below.refl _ _) | (with_reducible refine below_drewN ?_ _) | (with_reducible refine Below.drew ?_) | (with_reducible refine Below.setCell ?_ (by first | omega | (simp <;> omega)) _) | (with_reducible refine Below.alloc ?_ (by first | omega | (simp <;> omega)) _))) (hb.mono (by first | omega | (simp <;> omega))); have nk : w.heap.size + 2 ≤ w'.heap.size := (by have := hb.size; first | omega | (simp at this; omega)); clear hb)
    refine hK.out _ _ ?_ (fun hHeld => ?_)
    · (refine ⟨?_, ?_, ?_, ?_, ?_, ?_, ?_, ?_, ?_, ?_⟩ <;> (repeat (first | assumption | (with_reducible refine keepD ?_) | (with_reducible refine keepN ?_) | (with_reducible refine keepV ?_))))
    clear hK K
    (try simp only [Act.put, List.getElem_toArray, List.getElem_cons_zero, List.getElem_cons_succ, List.setIfInBounds_toArray, List.set_cons_zero, List.set_cons_succ])
    refine wpAnyH_take (i := 8) (v := ?_) rfl (by kernel_rfl) (by kernel_rfl) (by kernel_rfl) (fun _ _ _ h => h) (Or.inl ⟨by rfl, ?_⟩) (by assumption) ?_
    rotate_left
    · (intro w hSw; (try dsimp only at hSw); go_split_ands; go_simp; (try with_reducible rfl))
    (try simp only [Act.put, List.getElem_toArray, List.getElem_cons_zero, List.getElem_cons_succ, List.setIfInBounds_toArray, List.set_cons_zero, List.set_cons_succ])
    refine wpAnyH_take (i := 9) (v := ?_) rfl (by kernel_rfl) (by kernel_rfl) (by kernel_rfl) (fun _ _ _ h => h) (Or.inl ⟨by rfl, ?_⟩) (by assumption) ?_
    rotate_left
    · (intro w hSw; (try dsimp only at hSw); go_split_ands; go_simp; (try with_reducible rfl))
    (try simp only [Act.put, List.getElem_toArray, List.getElem_cons_zero, List.getElem_cons_succ, List.setIfInBounds_toArray, List.set_cons_zero, List.set_cons_succ])
    rw [show (!(A == B)) = true from hAB]
    refine wpAnyH_take (i := 10) (v := ?_) rfl (by kernel_rfl) (by kernel_rfl) (by kernel_rfl) (fun _ _ _ h => h) (Or.inl ⟨by rfl, ?_⟩) (by assumption) ?_
    rotate_left
    · (intro w hSw; (try dsimp only at hSw); go_split_ands; go_simp; (try with_reducible rfl))
    (try simp only [Act.put, List.getElem_toArray, List.getElem_cons_zero, List.getElem_cons_succ, List.setIfInBounds_toArray, List.set_cons_zero, List.set_cons_succ])
    refine wpAnyH_take (i := 11) (v := ?_) rfl (by kernel_rfl) (by kernel_rfl) (by kernel_rfl) (fun _ _ _ h => h) (Or.inl ⟨by rfl, ?_⟩) (by assumption) ?_
    rotate_left
    · (intro w hSw; (try dsimp only at hSw); go_split_ands; go_simp; (try with_reducible rfl))
    (try simp only [Act.put, List.getElem_toArray, List.getElem_cons_zero, List.getElem_cons_succ, List.setIfInBounds_toArray, List.set_cons_zero, List.set_cons_succ])
    refine wpAnyH_take (i := 12) (v := ?_) rfl (by kernel_rfl) (by kernel_rfl) (by kernel_rfl) (fun _ _ _ h => h) (Or.inl ⟨by rfl, ?_⟩) (by assumption) ?_
    rotate_left
    · (intro w hSw; (try dsimp only at hSw); go_split_ands; go_simp; (try with_reducible rfl))
    (try simp only [Act.put, List.getElem_toArray, List.getElem_cons_zero, List.getElem_cons_succ, List.setIfInBounds_toArray, List.set_cons_zero, List.set_cons_succ])
    refine wpAnyH_take (i := 14) (v := ?_) rfl (by kernel_rfl) (by kernel_rfl) (by kernel_rfl) (fun _ _ _ h => h) (Or.inl ⟨by rfl, ?_⟩) (by assumption) ?_
    rotate_left
    · (intro w hSw; (try dsimp only at hSw); go_split_ands; go_simp; (try with_reducible rfl))
    (try simp only [Act.put, List.getElem_toArray, List.getElem_cons_zero, List.getElem_cons_succ, List.setIfInBounds_toArray, List.set_cons_zero, List.set_cons_succ])
    refine wpAnyH_take (i := 15) (v := ?_) rfl (by kernel_rfl) (by kernel_rfl) (by kernel_rfl) (fun _ _ _ h => h) (Or.inl ⟨by rfl, ?_⟩) (by assumption) ?_
    rotate_left
    · (intro w hSw; (try dsimp only at hSw); go_split_ands; go_simp; (try with_reducible rfl))
    (try simp only [Act.put, List.getElem_toArray, List.getElem_cons_zero, List.getElem_cons_succ, List.setIfInBounds_toArray, List.set_cons_zero, List.set_cons_succ])
    refine wpAnyH_take (i := 16) (v := ?_) rfl (by kernel_rfl) (by kernel_rfl) (by kernel_rfl) (fun _ _ _ h => h) (Or.inl ⟨by rfl, ?_⟩) (by assumption) ?_
    rotate_left
    · (intro w hSw; (try dsimp only at hSw); go_split_ands; go_simp; (try with_reducible rfl))
    (try simp only [Act.put, List.getElem_toArray, List.getElem_cons_zero, List.getElem_cons_succ, List.setIfInBounds_toArray, List.set_cons_zero, List.set_cons_succ])
    refine wpAnyH_ready (rs := [13]) (by kernel_rfl) (by simp) ?_
    refine AllReadyH.cons rfl (fun K hK => ?_) AllReadyH.nil
    go_simp
    (go_at_call 34; refine (H2.out _ (he.below (by repeat (first | (with_reducible assumption) | (with_reducible exact Below.refl _ _) | (with_reducible refine below_drewN ?_ _) | (with_reducible refine Below.drew ?_) | (with_reducible refine Below.setCell ?_ (by first | omega | (simp <;> omega)) _) | (with_reducible refine Below.alloc ?_ (by first | omega | (simp <;> omega)) _))))).mono ?_; rintro e w' ⟨rfl, hb⟩; have c0 : w'.cell? ⟨w.heap.size, 0, none⟩ = some (.int .u64 u0) := (by refine keepB hb (by first | omega | (simp <;> omega)) ?_; (repeat (first | assumption | (with_reducible refine keepD ?_) | (with_reducible refine keepN ?_) | (with_reducible refine keepV ?_)))); have c1 : w'.cell? ⟨w.heap.size, 1, none⟩ = some (.int .u64 u1) := (by refine keepB hb (by first | omega | (simp <;> omega)) ?_; (repeat (first | assumption | (with_reducible refine keepD ?_) | (with_reducible refine keepN ?_) | (with_reducible refine keepV ?_)))); have c2 : w'.cell? ⟨w.heap.size, 2, none⟩ = some (.int .u64 u2) := (by refine keepB hb (by first | omega | (simp <;> omega)) ?_; (repeat (first | assumption | (with_reducible refine keepD ?_) | (with_reducible refine keepN ?_) | (with_reducible refine keepV ?_)))); have c3 : w'.cell? ⟨w.heap.size, 3, none⟩ = some (.string u3) := (by refine keepB hb (by first | omega | (simp <;> omega)) ?_; (repeat (first | assumption | (with_reducible refine keepD ?_) | (with_reducible refine keepN ?_) | (with_reducible refine keepV ?_)))); have c4 : w'.cell? ⟨w.heap.size, 4, none⟩ = some (.string u4) := (by refine keepB hb (by first | omega | (simp <;> omega)) ?_; (repeat (first | assumption | (with_reducible refine keepD ?_) | (with_reducible refine keepN ?_) | (with_reducible refine keepV ?_)))); have d0 : w'.cell? ⟨w.heap.size + 1, 0, none⟩ = some (.int .u64 v0) := (by refine keepB hb (by first | omega | (simp <;> omega)) ?_; (repeat (first | assumption | (with_reducible refine keepD ?_) | (with_reducible refine keepN ?_) | (with_reducible refine keepV ?_)))); have d1 : w'.cell? ⟨w.heap.size + 1, 1, none⟩ = some (.int .u64 v1) := (by refine keepB hb (by first | omega | (simp <;> omega)) ?_; (repeat (first | assumption | (with_reducible refine keepD ?_) | (with_reducible refine keepN ?_) | (with_reducible refine keepV ?_)))); have d2 : w'.cell? ⟨w.heap.size + 1, 2, none⟩ = some (.int .u64 v2) := (by refine keepB hb (by first | omega | (simp <;> omega)) ?_; (repeat (first | assumption | (with_reducible refine keepD ?_) | (with_reducible refine keepN ?_) | (with_reducible refine keepV ?_)))); have d3 : w'.cell? ⟨w.heap.size + 1, 3, none⟩ = some (.string v3) := (by refine keepB hb (by first | omega | (simp <;> omega)) ?_; (repeat (first | assumption | (with_reducible refine keepD ?_) | (with_reducible refine keepN ?_) | (with_reducible refine keepV ?_)))); have d4 : w'.cell? ⟨w.heap.size + 1, 4, none⟩ = some (.string v4) := (by refine keepB hb (by first | omega | (simp <;> omega)) ?_; (repeat (first | assumption | (with_reducible refine keepD ?_) | (with_reducible refine keepN ?_) | (with_reducible refine keepV ?_)))); have bk : Below w.heap.size w w' := Below.trans (by repeat (first | (with_reducible assumption) | (with_reducible exact Below.refl _ _) | (with_reducible refine below_drewN ?_ _) | (with_reducible refine Below.drew ?_) | (with_reducible refine Below.setCell ?_ (by first | omega | (simp <;> omega)) _) | (with_reducible refine Below.alloc ?_ (by first | omega | (simp <;> omega)) _))) (hb.mono (by first | omega | (simp <;> omega))); have nk : w.heap.size + 2 ≤ w'.heap.size := (by have := hb.size; first | omega | (simp at this; omega)); clear hb)
    refine hK.out _ _ ?_ (fun hHeld => ?_)
    · (refine ⟨?_, ?_, ?_, ?_, ?_, ?_, ?_, ?_, ?_, ?_⟩ <;> (repeat (first | assumption | (with_reducible refine keepD ?_) | (with_reducible refine keepN ?_) | (with_reducible refine keepV ?_))))
    clear hK K
    (try simp only [Act.put, List.getElem_toArray, List.getElem_cons_zero, List.getElem_cons_succ, List.setIfInBounds_toArray, List.set_cons_zero, List.set_cons_succ])
    refine wpAnyH_ready (rs := [17]) (by kernel_rfl) (by simp) ?_
    refine AllReadyH.cons rfl (fun K hK => ?_) AllReadyH.nil
    go_simp
    (go_at_call 34; refine (H5.out _ (he.below (by repeat (first | (with_reducible assumption) | (with_reducible exact Below.refl _ _) | (with_reducible refine below_drewN ?_ _) | (with_reducible refine Below.drew ?_) | (with_reducible refine Below.setCell ?_ (by first | omega | (simp <;> omega)) _) | (with_reducible refine Below.alloc ?_ (by first | omega | (simp <;> omega)) _))))).mono ?_; rintro e w' ⟨rfl, hb⟩; have c0 : w'.cell? ⟨w.heap.size, 0, none⟩ = some (.int .u64 u0) := (by refine keepB hb (by first | omega | (simp <;> omega)) ?_; (repeat (first | assumption | (with_reducible refine keepD ?_) | (with_reducible refine keepN ?_) | (with_reducible refine keepV ?_)))); have c1 : w'.cell? ⟨w.heap.size, 1, none⟩ = some (.int .u64 u1) := (by refine keepB hb (by first | omega | (simp <;> omega)) ?_; (repeat (first | assumption | (with_reducible refine keepD ?_) | (with_reducible refine keepN ?_) | (with_reducible refine keepV ?_)))); have c2 : w'.cell? ⟨w.heap.size, 2, none⟩ = some (.int .u64 u2) := (by refine keepB hb (by first | omega | (simp <;> omega)) ?_; (repeat (first | assumption | (with_reducible refine keepD ?_) | (with_reducible refine keepN ?_) | (with_reducible refine keepV ?_)))); have c3 : w'.cell? ⟨w.heap.size, 3, none⟩ = some (.string u3) := (by refine keepB hb (by first | omega | (simp <;> omega)) ?_; (repeat (first | assumption | (with_reducible refine keepD ?_) | (with_reducible refine keepN ?_) | (with_reducible refine keepV ?_)))); have c4 : w'.cell? ⟨w.heap.size, 4, none⟩ = some (.string u4) := (by refine keepB hb (by first | omega | (simp <;> omega)) ?_; (repeat (first | assumption | (with_reducible refine keepD ?_) | (with_reducible refine keepN ?_) | (with_reducible refine keepV ?_)))); have d0 : w'.cell? ⟨w.heap.size + 1, 0, none⟩ = some (.int .u64 v0) := (by refine keepB hb (by first | omega | (simp <;> omega)) ?_; (repeat (first | assumption | (with_reducible refine keepD ?_) | (with_reducible refine keepN ?_) | (with_reducible refine keepV ?_)))); have d1 : w'.cell? ⟨w.heap.size + 1, 1, none⟩ = some (.int .u64 v1) := (by refine keepB hb (by first | omega | (simp <;> omega)) ?_; (repeat (first | assumption | (with_reducible refine keepD ?_) | (with_reducible refine keepN ?_) | (with_reducible refine keepV ?_)))); have d2 : w'.cell? ⟨w.heap.size + 1, 2, none⟩ = some (.int .u64 v2) := (by refine keepB hb (by first | omega | (simp <;> omega)) ?_; (repeat (first | assumption | (with_reducible refine keepD ?_) | (with_reducible refine keepN ?_) | (with_reducible refine keepV ?_)))); have d3 : w'.cell? ⟨w.heap.size + 1, 3, none⟩ = some (.string v3) := (by refine keepB hb (by first | omega | (simp <;> omega)) ?_; (repeat (first | assumption | (with_reducible refine keepD ?_) | (with_reducible refine keepN ?_) | (with_reducible refine keepV ?_)))); have d4 : w'.cell? ⟨w.heap.size + 1, 4, none⟩ = some (.string v4) := (by refine keepB hb (by first | omega | (simp <;> omega)) ?_; (repeat (first | assumption | (with_reducible refine keepD ?_) | (with_reducible refine keepN ?_) | (with_reducible refine keepV ?_)))); have bk : Below w.heap.size w w' := Below.trans (by repeat (first | (with_reducible assumption) | (with_reducible exact Below.refl _ _) | (with_reducible refine below_drewN ?_ _) | (with_reducible refine Below.drew ?_) | (with_reducible refine Below.setCell ?_ (by first | omega | (simp <;> omega)) _) | (with_reducible refine Below.alloc ?_ (by first | omega | (simp <;> omega)) _))) (hb.mono (by first | omega | (simp <;> omega))); have nk : w.heap.size + 2 ≤ w'.heap.size := (by have := hb.size; first | omega | (simp at this; omega)); clear hb)
    refine hK.out _ _ ?_ (fun hHeld => ?_)
    · (refine ⟨?_, ?_, ?_, ?_, ?_, ?_, ?_, ?_, ?_, ?_⟩ <;> (repeat (first | assumption | (with_reducible refine keepD ?_) | (with_reducible refine keepN ?_) | (with_reducible refine keepV ?_))))
    clear hK K
    (try simp only [Act.put, List.getElem_toArray, List.getElem_cons_zero, List.getElem_cons_succ, List.setIfInBounds_toArray, List.set_cons_zero, List.set_cons_succ])
    refine wpAnyH_take (i := 18) (v := ?_) rfl (by kernel_rfl) (by kernel_rfl) (by kernel_rfl) (fun _ _ _ h => h) (Or.inl ⟨by rfl, ?_⟩) (by assumption) ?_
    rotate_left
    · (intro w hSw; (try dsimp only at hSw); go_split_ands; go_simp; (try with_reducible rfl))
    (try simp only [Act.put, List.getElem_toArray, List.getElem_cons_zero, List.getElem_cons_succ, List.setIfInBounds_toArray, List.set_cons_zero, List.set_cons_succ])
    refine wpAnyH_take (i := 19) (v := ?_) rfl (by kernel_rfl) (by kernel_rfl) (by kernel_rfl) (fun _ _ _ h => h) (Or.inl ⟨by rfl, ?_⟩) (by assumption) ?_
    rotate_left
    · (intro w hSw; (try dsimp only at hSw); go_split_ands; go_simp; (try with_reducible rfl))
    (try simp only [Act.put, List.getElem_toArray, List.getElem_cons_zero, List.getElem_cons_succ, List.setIfInBounds_toArray, List.set_cons_zero, List.set_cons_succ])
    refine wpAnyH_take (i := 20) (v := ?_) rfl (by kernel_rfl) (by kernel_rfl) (by kernel_rfl) (fun _ _ _ h => h) (Or.inl ⟨by rfl, ?_⟩) (by assumption) ?_
    rotate_left
    · (intro w hSw; (try dsimp only at hSw); go_split_ands; go_simp; (try with_reducible rfl))
    (try simp only [Act.put, List.getElem_toArray, List.getElem_cons_zero, List.getElem_cons_succ, List.setIfInBounds_toArray, List.set_cons_zero, List.set_cons_succ])
    rw [show (!(C == D)) = true from hCD]
    refine wpAnyH_take (i := 21) (v := ?_) rfl (by kernel_rfl) (by kernel_rfl) (by kernel_rfl) (fun _ _ _ h => h) (Or.inl ⟨by rfl, ?_⟩) (by assumption) ?_
    rotate_left
    · (intro w hSw; (try dsimp only at hSw); go_split_ands; go_simp; (try with_reducible rfl))
    (try simp only [Act.put, List.getElem_toArray, List.getElem_cons_zero, List.getElem_cons_succ, List.setIfInBounds_toArray, List.set_cons_zero, List.set_cons_succ])
    refine wpAnyH_take (i := 22) (v := ?_) rfl (by kernel_rfl) (by kernel_rfl) (by kernel_rfl) (fun _ _ _ h => h) (Or.inl ⟨by rfl, ?_⟩) (by assumption) ?_
    rotate_left
    · (intro w hSw; (try dsimp only at hSw); go_split_ands; go_simp; (try with_reducible rfl))
    (try simp only [Act.put, List.getElem_toArray, List.getElem_cons_zero, List.getElem_cons_succ, List.setIfInBounds_toArray, List.set_cons_zero, List.set_cons_succ])
    refine wpAnyH_take (i := 23) (v := ?_) rfl (by kernel_rfl) (by kernel_rfl) (by kernel_rfl) (fun _ _ _ h => h) (Or.inl ⟨by rfl, ?_⟩) (by assumption) ?_
    rotate_left
    · (intro w hSw; (try dsimp only at hSw); go_split_ands; go_simp; (try with_reducible rfl))
    (try simp only [Act.put, List.getElem_toArray, List.getElem_cons_zero, List.getElem_cons_succ, List.setIfInBounds_toArray, List.set_cons_zero, List.set_cons_succ])
    refine wpAnyH_take (i := 25) (v := ?_) rfl (by kernel_rfl) (by kernel_rfl) (by kernel_rfl) (fun _ _ _ h => h) (Or.inl ⟨by rfl, ?_⟩) (by assumption) ?_
    rotate_left
    · (intro w hSw; (try dsimp only at hSw); go_split_ands; go_simp; (try with_reducible rfl))
    (try simp only [Act.put, List.getElem_toArray, List.getElem_cons_zero, List.getElem_cons_succ, List.setIfInBounds_toArray, List.set_cons_zero, List.set_cons_succ])
    refine wpAnyH_take (i := 26) (v := ?_) rfl (by kernel_rfl) (by kernel_rfl) (by kernel_rfl) (fun _ _ _ h => h) (Or.inl ⟨by rfl, ?_⟩) (by assumption) ?_
    rotate_left
    · (intro w hSw; (try dsimp only at hSw); go_split_ands; go_simp; (try with_reducible rfl))
    (try simp only [Act.put, List.getElem_toArray, List.getElem_cons_zero, List.getElem_cons_succ, List.setIfInBounds_toArray, List.set_cons_zero, List.set_cons_succ])
    refine wpAnyH_take (i := 27) (v := ?_) rfl (by kernel_rfl) (by kernel_rfl) (by kernel_rfl) (fun _ _ _ h => h) (Or.inl ⟨by rfl, ?_⟩) (by assumption) ?_
    rotate_left
    · (intro w hSw; (try dsimp only at hSw); go_split_ands; go_simp; (try with_reducible rfl))
    (try simp only [Act.put, List.getElem_toArray, List.getElem_cons_zero, List.getElem_cons_succ, List.setIfInBounds_toArray, List.set_cons_zero, List.set_cons_succ])
    refine wpAnyH_ready (rs := [24]) (by kernel_rfl) (by simp) ?_
    refine AllReadyH.cons rfl (fun K hK => ?_) AllReadyH.nil
    go_simp
    (go_at_call 34; refine (H3.out _ (he.below (by repeat (first | (with_reducible assumption) | (with_reducible exact Below.refl _ _) | (with_reducible refine below_drewN ?_ _) | (with_reducible refine Below.drew ?_) | (with_reducible refine Below.setCell ?_ (by first | omega | (simp <;> omega)) _) | (with_reducible refine Below.alloc ?_ (by first | omega | (simp <;> omega)) _))))).mono ?_; rintro e w' ⟨rfl, hb⟩; have c0 : w'.cell? ⟨w.heap.size, 0, none⟩ = some (.int .u64 u0) := (by refine keepB hb (by first | omega | (simp <;> omega)) ?_; (repeat (first | assumption | (with_reducible refine keepD ?_) | (with_reducible refine keepN ?_) | (with_reducible refine keepV ?_)))); have c1 : w'.cell? ⟨w.heap.size, 1, none⟩ = some (.int .u64 u1) := (by refine keepB hb (by first | omega | (simp <;> omega)) ?_; (repeat (first | assumption | (with_reducible refine keepD ?_) | (with_reducible refine keepN ?_) | (with_reducible refine keepV ?_)))); have c2 : w'.cell? ⟨w.heap.size, 2, none⟩ = some (.int .u64 u2) := (by refine keepB hb (by first | omega | (simp <;> omega)) ?_; (repeat (first | assumption | (with_reducible refine keepD ?_) | (with_reducible refine keepN ?_) | (with_reducible refine keepV ?_)))); have c3 : w'.cell? ⟨w.heap.size, 3, none⟩ = some (.string u3) := (by refine keepB hb (by first | omega | (simp <;> omega)) ?_; (repeat (first | assumption | (with_reducible refine keepD ?_) | (with_reducible refine keepN ?_) | (with_reducible refine keepV ?_)))); have c4 : w'.cell? ⟨w.heap.size, 4, none⟩ = some (.string u4) := (by refine keepB hb (by first | omega | (simp <;> omega)) ?_; (repeat (first | assumption | (with_reducible refine keepD ?_) | (with_reducible refine keepN ?_) | (with_reducible refine keepV ?_)))); have d0 : w'.cell? ⟨w.heap.size + 1, 0, none⟩ = some (.int .u64 v0) := (by refine keepB hb (by first | omega | (simp <;> omega)) ?_; (repeat (first | assumption | (with_reducible refine keepD ?_) | (with_reducible refine keepN ?_) | (with_reducible refine keepV ?_)))); have d1 : w'.cell? ⟨w.heap.size + 1, 1, none⟩ = some (.int .u64 v1) := (by refine keepB hb (by first | omega | (simp <;> omega)) ?_; (repeat (first | assumption | (with_reducible refine keepD ?_) | (with_reducible refine keepN ?_) | (with_reducible refine keepV ?_)))); have d2 : w'.cell? ⟨w.heap.size + 1, 2, none⟩ = some (.int .u64 v2) := (by refine keepB hb (by first | omega | (simp <;> omega)) ?_; (repeat (first | assumption | (with_reducible refine keepD ?_) | (with_reducible refine keepN ?_) | (with_reducible refine keepV ?_)))); have d3 : w'.cell? ⟨w.heap.size + 1, 3, none⟩ = some (.string v3) := (by refine keepB hb (by first | omega | (simp <;> omega)) ?_; (repeat (first | assumption | (with_reducible refine keepD ?_) | (with_reducible refine keepN ?_) | (with_reducible refine keepV ?_)))); have d4 : w'.cell? ⟨w.heap.size + 1, 4, none⟩ = some (.string v4) := (by refine keepB hb (by first | omega | (simp <;> omega)) ?_; (repeat (first | assumption | (with_reducible refine keepD ?_) | (with_reducible refine keepN ?_) | (with_reducible refine keepV ?_)))); have bk : Below w.heap.size w w' := Below.trans (by repeat (first | (with_reducible assumption) | (with_reducible exact Below.refl _ _) | (with_reducible refine below_drewN ?_ _) | (with_reducible refine Below.drew ?_) | (with_reducible refine Below.setCell ?_ (by first | omega | (simp <;> omega)) _) | (with_reducible refine Below.alloc ?_ (by first | omega | (simp <;> omega)) _))) (hb.mono (by first | omega | (simp <;> omega))); have nk : w.heap.size + 2 ≤ w'.heap.size := (by have := hb.size; first | omega | (simp at this; omega)); clear hb)
    refine hK.out _ _ ?_ (fun hHeld => ?_)
    · (refine ⟨?_, ?_, ?_, ?_, ?_, ?_, ?_, ?_, ?_, ?_⟩ <;> (repeat (first | assumption | (with_reducible refine keepD ?_) | (with_reducible refine keepN ?_) | (with_reducible refine keepV ?_))))
    clear hK K
    (try simp only [Act.put, List.getElem_toArray, List.getElem_cons_zero, List.getElem_cons_succ, List.setIfInBounds_toArray, List.set_cons_zero, List.set_cons_succ])
    refine wpAnyH_ready (rs := [28]) (by kernel_rfl) (by simp) ?_
    refine AllReadyH.cons rfl (fun K hK => ?_) AllReadyH.nil
    go_simp
    (go_at_call 34; refine (H4.out _ (he.below (by repeat (first | (with_reducible assumption) | (with_reducible exact Below.refl _ _) | (with_reducible refine below_drewN ?_ _) | (with_reducible refine Below.drew ?_) | (with_reducible refine Below.setCell ?_ (by first | omega | (simp <;> omega)) _) | (with_reducible refine Below.alloc ?_ (by first | omega | (simp <;> omega)) _))))).mono ?_; rintro e w' ⟨rfl, hb⟩; have c0 : w'.cell? ⟨w.heap.size, 0, none⟩ = some (.int .u64 u0) := (by refine keepB hb (by first | omega | (simp <;> omega)) ?_; (repeat (first | assumption | (with_reducible refine keepD ?_) | (with_reducible refine keepN ?_) | (with_reducible refine keepV ?_)))); have c1 : w'.cell? ⟨w.heap.size, 1, none⟩ = some (.int .u64 u1) := (by refine keepB hb (by first | omega | (simp <;> omega)) ?_; (repeat (first | assumption | (with_reducible refine keepD ?_) | (with_reducible refine keepN ?_) | (with_reducible refine keepV ?_)))); have c2 : w'.cell? ⟨w.heap.size, 2, none⟩ = some (.int .u64 u2) := (by refine keepB hb (by first | omega | (simp <;> omega)) ?_; (repeat (first | assumption | (with_reducible refine keepD ?_) | (with_reducible refine keepN ?_) | (with_reducible refine keepV ?_)))); have c3 : w'.cell? ⟨w.heap.size, 3, none⟩ = some (.string u3) := (by refine keepB hb (by first | omega | (simp <;> omega)) ?_; (repeat (first | assumption | (with_reducible refine keepD ?_) | (with_reducible refine keepN ?_) | (with_reducible refine keepV ?_)))); have c4 : w'.cell? ⟨w.heap.size, 4, none⟩ = some (.string u4) := (by refine keepB hb (by first | omega | (simp <;> omega)) ?_; (repeat (first | assumption | (with_reducible refine keepD ?_) | (with_reducible refine keepN ?_) | (with_reducible refine keepV ?_)))); have d0 : w'.cell? ⟨w.heap.size + 1, 0, none⟩ = some (.int .u64 v0) := (by refine keepB hb (by first | omega | (simp <;> omega)) ?_; (repeat (first | assumption | (with_reducible refine keepD ?_) | (with_reducible refine keepN ?_) | (with_reducible refine keepV ?_)))); have d1 : w'.cell? ⟨w.heap.size + 1, 1, none⟩ = some (.int .u64 v1) := (by refine keepB hb (by first | omega | (simp <;> omega)) ?_; (repeat (first | assumption | (with_reducible refine keepD ?_) | (with_reducible refine keepN ?_) | (with_reducible refine keepV ?_)))); have d2 : w'.cell? ⟨w.heap.size + 1, 2, none⟩ = some (.int .u64 v2) := (by refine keepB hb (by first | omega | (simp <;> omega)) ?_; (repeat (first | assumption | (with_reducible refine keepD ?_) | (with_reducible refine keepN ?_) | (with_reducible refine keepV ?_)))); have d3 : w'.cell? ⟨w.heap.size + 1, 3, none⟩ = some (.string v3) := (by refine keepB hb (by first | omega | (simp <;> omega)) ?_; (repeat (first | assumption | (with_reducible refine keepD ?_) | (with_reducible refine keepN ?_) | (with_reducible refine keepV ?_)))); have d4 : w'.cell? ⟨w.heap.size + 1, 4, none⟩ = some (.string v4) := (by refine keepB hb (by first | omega | (simp <;> omega)) ?_; (repeat (first | assumption | (with_reducible refine keepD ?_) | (with_reducible refine keepN ?_) | (with_reducible refine keepV ?_)))); have bk : Below w.heap.size w w' := Below.trans (by repeat (first | (with_reducible assumption) | (with_reducible exact Below.refl _ _) | (with_reducible refine below_drewN ?_ _) | (with_reducible refine Below.drew ?_) | (with_reducible refine Below.setCell ?_ (by first | omega | (simp <;> omega)) _) | (with_reducible refine Below.alloc ?_ (by first | omega | (simp <;> omega)) _))) (hb.mono (by first | omega | (simp <;> omega))); have nk : w.heap.size + 2 ≤ w'.heap.size := (by have := hb.size; first | omega | (simp at this; omega)); clear hb)
    refine hK.out _ _ ?_ (fun hHeld => ?_)
    · (refine ⟨?_, ?_, ?_, ?_, ?_, ?_, ?_, ?_, ?_, ?_⟩ <;> (repeat (first | assumption | (with_reducible refine keepD ?_) | (with_reducible refine keepN ?_) | (with_reducible refine keepV ?_))))
    clear hK K
    (try simp only [Act.put, List.getElem_toArray, List.getElem_cons_zero, List.getElem_cons_succ, List.setIfInBounds_toArray, List.set_cons_zero, List.set_cons_succ])
    refine wpAnyH_take (i := 29) (v := ?_) rfl (by kernel_rfl) (by kernel_rfl) (by kernel_rfl) (fun _ _ _ h => h) (Or.inl ⟨by rfl, ?_⟩) (by assumption) ?_
    rotate_left
    · (intro w hSw; (try dsimp only at hSw); go_split_ands; go_simp; (try with_reducible rfl))
    (try simp only [Act.put, List.getElem_toArray, List.getElem_cons_zero, List.getElem_cons_succ, List.setIfInBounds_toArray, List.set_cons_zero, List.set_cons_succ])
    refine wpAnyH_take (i := 30) (v := ?_) rfl (by kernel_rfl) (by kernel_rfl) (by kernel_rfl) (fun _ _ _ h => h) (Or.inl ⟨by rfl, ?_⟩) (by assumption) ?_
    rotate_left
    · (intro w hSw; (try dsimp only at hSw); go_split_ands; go_simp; (try with_reducible rfl))
    (try simp only [Act.put, List.getElem_toArray, List.getElem_cons_zero, List.getElem_cons_succ, List.setIfInBounds_toArray, List.set_cons_zero, List.set_cons_succ])
    refine wpAnyH_take (i := 31) (v := ?_) rfl (by kernel_rfl) (by kernel_rfl) (by kernel_rfl) (fun _ _ _ h => h) (Or.inl ⟨by rfl, ?_⟩) (by assumption) ?_
    rotate_left
    · (intro w hSw; (try dsimp only at hSw); go_split_ands; go_simp; (try with_reducible rfl))
    (try simp only [Act.put, List.getElem_toArray, List.getElem_cons_zero, List.getElem_cons_succ, List.setIfInBounds_toArray, List.set_cons_zero, List.set_cons_succ])
    rw [show (!(E == F)) = true from hEF]
    refine wpAnyH_done (by kernel_rfl) ?_ _
    go_wp2_with fail
    go_ret
    exact ⟨rfl, (by repeat (first | (with_reducible assumption) | (with_reducible exact Below.refl _ _) | (with_reducible refine below_drewN ?_ _) | (with_reducible refine Below.drew ?_) | (with_reducible refine Below.setCell ?_ (by first | omega | (simp <;> omega)) _) | (with_reducible refine Below.alloc ?_ (by first | omega | (simp <;> omega)) _)))⟩

set_option maxRecDepth 100000 in
set_option maxHeartbeats 8000000 in
theorem walk_12 (k u0 u1 u2 v0 v1 v2 : Int) (u3 u4 v3 v4 : ByteArray) (hu3 : u3.size ≤ 2147483647) (hu4 : u4.size ≤ 2147483647) (hv3 : v3.size ≤ 2147483647) (hv4 : v4.size ≤ 2147483647) (w : World) (he : Hid (Errs w)) (hk : 1 ≤ k ∧ k < 3) (hp : v3.toList = []) (A B C D E F : Bool) (hAB : (A != B) = true) (hCD : (C != D) = true) (hEF : (E != F) = true) (H0 : Hid (HoldIsG 0 k u0 u1 u2 v0 v1 v2 u3 u4 v3 v4 A)) (H1 : Hid (HoldIsG 1 k u0 u1 u2 v0 v1 v2 u3 u4 v3 v4 B)) (H2 : Hid (HoldIsG 2 k u0 u1 u2 v0 v1 v2 u3 u4 v3 v4 C)) (H5 : Hid (HoldIsG 5 k u0 u1 u2 v0 v1 v2 u3 u4 v3 v4 D)) (H3 : Hid (HoldIsG 3 k u0 u1 u2 v0 v1 v2 u3 u4 v3 v4 E)) (H4 : Hid (HoldIsG 4 k u0 u1 u2 v0 v1 v2 u3 u4 v3 v4 F)) :
    Calls Tryd.prog 9 #[.agg (plainC u0 u1 u2 u3 u4), .int .i64 k, .agg (plainC v0 v1 v2 v3 v4)] w (BoolPost true w) := by
  have i1 : (k < 1) = False := by simp; omega
  have i2 : (3 < k) = False := by simp; omega
  have i3 : (k < 3) = True := by simp; omega
  clear hk
  go_enter Tryd.func9, Tryd.ntmps9
  go_wp2_with fail
  refine (fits14_any u0 u1 u2 u3 u4 true (by simp; omega) _).mono ?_
  rintro e w1 ⟨rfl, rfl⟩
  go_wp2_with fail
  refine (fits14_any v0 v1 v2 v3 v4 true (by simp; omega) _).mono ?_
  rintro e w1 ⟨rfl, rfl⟩
  go_wp2_with fail
  refine (svGood_any _ 2 [(u0, u1, u2, u3, u4), (v0, v1, v2, v3, v4)] (by simp) (by simp) (fun i => by rcases i with _ | _ | i <;> first | exact ⟨hu3, hu4⟩ | exact ⟨hv3, hv4⟩ | exact ⟨Nat.zero_le _, Nat.zero_le _⟩) _ (by simp) (row2 _ _ (by simp) (u0, u1, u2, u3, u4) (v0, v1, v2, v3, v4))).mono ?_
  rintro e w1 ⟨rfl, hb⟩
  have A1 : PlainAt w1 w.heap.size (plainC u0 u1 u2 u3 u4) := (hb.block _ (by simp <;> omega)).trans (((((plainAt_last w _ _ rfl).alloc _).alloc _).alloc _).alloc _)
  have B1 : PlainAt w1 (w.heap.size + 1) (plainC v0 v1 v2 v3 v4) := (hb.block _ (by simp <;> omega)).trans ((((plainAt_last (w.alloc _) _ _ (by simp)).alloc _).alloc _).alloc _)
  have nk : w.heap.size + 2 ≤ w1.heap.size := by have := hb.size; simp at this; omega
  have bk : Below w.heap.size w w1 := Below.trans (by repeat (first | (with_reducible assumption) | (with_reducible exact Below.refl _ _) | (with_reducible refine below_drewN ?_ _) | (with_reducible refine Below.drew ?_) | (with_reducible refine Below.setCell ?_ (by first | omega | (simp <;> omega)) _) | (with_reducible refine Below.alloc ?_ (by first | omega | (simp <;> omega)) _))) (hb.mono (by simp <;> omega))
  clear hb
  have c0 : w1.cell? ⟨w.heap.size, 0, none⟩ = some (.int .u64 u0) := A1.cell 0
  have c1 : w1.cell? ⟨w.heap.size, 1, none⟩ = some (.int .u64 u1) := A1.cell 1
  have c2 : w1.cell? ⟨w.heap.size, 2, none⟩ = some (.int .u64 u2) := A1.cell 2
  have c3 : w1.cell? ⟨w.heap.size, 3, none⟩ = some (.string u3) := A1.cell 3
  have c4 : w1.cell? ⟨w.heap.size, 4, none⟩ = some (.string u4) := A1.cell 4
  have d0 : w1.cell? ⟨w.heap.size + 1, 0, none⟩ = some (.int .u64 v0) := B1.cell 0
  have d1 : w1.cell? ⟨w.heap.size + 1, 1, none⟩ = some (.int .u64 v1) := B1.cell 1
  have d2 : w1.cell? ⟨w.heap.size + 1, 2, none⟩ = some (.int .u64 v2) := B1.cell 2
  have d3 : w1.cell? ⟨w.heap.size + 1, 3, none⟩ = some (.string v3) := B1.cell 3
  have d4 : w1.cell? ⟨w.heap.size + 1, 4, none⟩ = some (.string v4) := B1.cell 4
  clear A1 B1
  generalize goodAll [(u0, u1, u2, u3, u4), (v0, v1, v2, v3, v4)] = bs
  cases bs with
  | false =>
    go_wp2_with fail
    go_ret
    exact ⟨rfl, (by repeat (first | (with_reducible assumption) | (with_reducible exact Below.refl _ _) | (with_reducible refine below_drewN ?_ _) | (with_reducible refine Below.drew ?_) | (with_reducible refine Below.setCell ?_ (by first | omega | (simp <;> omega)) _) | (with_reducible refine Below.alloc ?_ (by first | omega | (simp <;> omega)) _)))⟩
  | true =>
    go_wp2_with fail
    refine wp_region_held_drew (S := (fun w' => w'.cell? ⟨w.heap.size, 0, none⟩ = some (.int .u64 u0) ∧ w'.cell? ⟨w.heap.size, 1, none⟩ = some (.int .u64 u1) ∧ w'.cell? ⟨w.heap.size, 2, none⟩ = some (.int .u64 u2) ∧ w'.cell? ⟨w.heap.size, 3, none⟩ = some (.string u3) ∧ w'.cell? ⟨w.heap.size, 4, none⟩ = some (.string u4) ∧ w'.cell? ⟨w.heap.size + 1, 0, none⟩ = some (.int .u64 v0) ∧ w'.cell? ⟨w.heap.size + 1, 1, none⟩ = some (.int .u64 v1) ∧ w'.cell? ⟨w.heap.size + 1, 2, none⟩ = some (.int .u64 v2) ∧ w'.cell? ⟨w.heap.size + 1, 3, none⟩ = some (.string v3) ∧ w'.cell? ⟨w.heap.size + 1, 4, none⟩ = some (.string v4))) (by kernel_rfl) ?_ (fun hHeld => ?_)
    · (refine ⟨?_, ?_, ?_, ?_, ?_, ?_, ?_, ?_, ?_, ?_⟩ <;> (repeat (first | assumption | (with_reducible refine keepD ?_) | (with_reducible refine keepN ?_) | (with_reducible refine keepV ?_))))
    refine wpAnyH_take (i := 0) (v := ?_) rfl (by kernel_rfl) (by kernel_rfl) (by kernel_rfl) (fun _ _ _ h => h) (Or.inl ⟨by rfl, ?_⟩) (by assumption) ?_
    rotate_left
    · (intro w hSw; (try dsimp only at hSw); go_split_ands; go_simp; (try with_reducible rfl))
    (try simp only [Act.put, List.getElem_toArray, List.getElem_cons_zero, List.getElem_cons_succ, List.setIfInBounds_toArray, List.set_cons_zero, List.set_cons_succ])
    refine wpAnyH_take (i := 1) (v := ?_) rfl (by kernel_rfl) (by kernel_rfl) (by kernel_rfl) (fun _ _ _ h => h) (Or.inl ⟨by rfl, ?_⟩) (by assumption) ?_
    rotate_left
    · (intro w hSw; (try dsimp only at hSw); go_split_ands; go_simp; (try with_reducible rfl))
    (try simp only [Act.put, List.getElem_toArray, List.getElem_cons_zero, List.getElem_cons_succ, List.setIfInBounds_toArray, List.set_cons_zero, List.set_cons_succ])
    refine wpAnyH_take (i := 2) (v := ?_) rfl (by kernel_rfl) (by kernel_rfl) (by kernel_rfl) (fun _ _ _ h => h) (Or.inl ⟨by rfl, ?_⟩) (by assumption) ?_
    rotate_left
    · (intro w hSw; (try dsimp only at hSw); go_split_ands; go_simp; (try with_reducible rfl))
    (try simp only [Act.put, List.getElem_toArray, List.getElem_cons_zero, List.getElem_cons_succ, List.setIfInBounds_toArray, List.set_cons_zero, List.set_cons_succ])
    refine wpAnyH_take (i := 4) (v := ?_) rfl (by kernel_rfl) (by kernel_rfl) (by kernel_rfl) (fun _ _ _ h => h) (Or.inl ⟨by rfl, ?_⟩) (by assumption) ?_
    rotate_left
    · (intro w hSw; (try dsimp only at hSw); go_split_ands; go_simp; (try with_reducible rfl))
    (try simp only [Act.put, List.getElem_toArray, List.getElem_cons_zero, List.getElem_cons_succ, List.setIfInBounds_toArray, List.set_cons_zero, List.set_cons_succ])
    refine wpAnyH_take (i := 5) (v := ?_) rfl (by kernel_rfl) (by kernel_rfl) (by kernel_rfl) (fun _ _ _ h => h) (Or.inl ⟨by rfl, ?_⟩) (by assumption) ?_
    rotate_left
    · (intro w hSw; (try dsimp only at hSw); go_split_ands; go_simp; (try with_reducible rfl))
    (try simp only [Act.put, List.getElem_toArray, List.getElem_cons_zero, List.getElem_cons_succ, List.setIfInBounds_toArray, List.set_cons_zero, List.set_cons_succ])
    refine wpAnyH_take (i := 6) (v := ?_) rfl (by kernel_rfl) (by kernel_rfl) (by kernel_rfl) (fun _ _ _ h => h) (Or.inl ⟨by rfl, ?_⟩) (by assumption) ?_
    rotate_left
    · (intro w hSw; (try dsimp only at hSw); go_split_ands; go_simp; (try with_reducible rfl))
    (try simp only [Act.put, List.getElem_toArray, List.getElem_cons_zero, List.getElem_cons_succ, List.setIfInBounds_toArray, List.set_cons_zero, List.set_cons_succ])
    refine wpAnyH_ready (rs := [3]) (by kernel_rfl) (by simp) ?_
    refine AllReadyH.cons rfl (fun K hK => ?_) AllReadyH.nil
    go_simp
    (go_at_call 34; refine (H0.out _ (he.below (by repeat (first | (with_reducible assumption) | (with_reducible exact Below.refl _ _) | (with_reducible refine below_drewN ?_ _) | (with_reducible refine Below.drew ?_) | (with_reducible refine Below.setCell ?_ (by first | omega | (simp <;> omega)) _) | (with_reducible refine Below.alloc ?_ (by first | omega | (simp <;> omega)) _))))).mono ?_; rintro e w' ⟨rfl, hb⟩; have c0 : w'.cell? ⟨w.heap.size, 0, none⟩ = some (.int .u64 u0) := (by refine keepB hb (by first | omega | (simp <;> omega)) ?_; (repeat (first | assumption | (with_reducible refine keepD ?_) | (with_reducible refine keepN ?_) | (with_reducible refine keepV ?_)))); have c1 : w'.cell? ⟨w.heap.size, 1, none⟩ = some (.int .u64 u1) := (by refine keepB hb (by first | omega | (simp <;> omega)) ?_; (repeat (first | assumption | (with_reducible refine keepD ?_) | (with_reducible refine keepN ?_) | (with_reducible refine keepV ?_)))); have c2 : w'.cell? ⟨w.heap.size, 2, none⟩ = some (.int .u64 u2) := (by refine keepB hb (by first | omega | (simp <;> omega)) ?_; (repeat (first | assumption | (with_reducible refine keepD ?_) | (with_reducible refine keepN ?_) | (with_reducible refine keepV ?_)))); have c3 : w'.cell? ⟨w.heap.size, 3, none⟩ = some (.string u3) := (by refine keepB hb (by first | omega | (simp <;> omega)) ?_; (repeat (first | assumption | (with_reducible refine keepD ?_) | (with_reducible refine keepN ?_) | (with_reducible refine keepV ?_)))); have c4 : w'.cell? ⟨w.heap.size, 4, none⟩ = some (.string u4) := (by refine keepB hb (by first | omega | (simp <;> omega)) ?_; (repeat (first | assumption | (with_reducible refine keepD ?_) | (with_reducible refine keepN ?_) | (with_reducible refine keepV ?_)))); have d0 : w'.cell? ⟨w.heap.size + 1, 0, none⟩ = some (.int .u64 v0) := (by refine keepB hb (by first | omega | (simp <;> omega)) ?_; (repeat (first | assumption | (with_reducible refine keepD ?_) | (with_reducible refine keepN ?_) | (with_reducible refine keepV ?_)))); have d1 : w'.cell? ⟨w.heap.size + 1, 1, none⟩ = some (.int .u64 v1) := (by refine keepB hb (by first | omega | (simp <;> omega)) ?_; (repeat (first | assumption | (with_reducible refine keepD ?_) | (with_reducible refine keepN ?_) | (with_reducible refine keepV ?_)))); have d2 : w'.cell? ⟨w.heap.size + 1, 2, none⟩ = some (.int .u64 v2) := (by refine keepB hb (by first | omega | (simp <;> omega)) ?_; (repeat (first | assumption | (with_reducible refine keepD ?_) | (with_reducible refine keepN ?_) | (with_reducible refine keepV ?_)))); have d3 : w'.cell? ⟨w.heap.size + 1, 3, none⟩ = some (.string v3) := (by refine keepB hb (by first | omega | (simp <;> omega)) ?_; (repeat (first | assumption | (with_reducible refine keepD ?_) | (with_reducible refine keepN ?_) | (with_reducible refine keepV ?_)))); have d4 : w'.cell? ⟨w.heap.size + 1, 4, none⟩ = some (.string v4) := (by refine keepB hb (by first | omega | (simp <;> omega)) ?_; (repeat (first | assumption | (with_reducible refine keepD ?_) | (with_reducible refine keepN ?_) | (with_reducible refine keepV ?_)))); have bk : Below w.heap.size w w' := Below.trans (by repeat (first | (with_reducible assumption) | (with_reducible exact Below.refl _ _) | (with_reducible refine below_drewN ?_ _) | (with_reducible refine Below.drew ?_) | (with_reducible refine Below.setCell ?_ (by first | omega | (simp <;> omega)) _) | (with_reducible refine Below.alloc ?_ (by first | omega | (simp <;> omega)) _))) (hb.mono (by first | omega | (simp <;> omega))); have nk : w.heap.size + 2 ≤ w'.heap.size := (by have := hb.size; first | omega | (simp at this; omega)); clear hb)
    refine hK.out _ _ ?_ (fun hHeld => ?_)
    · (refine ⟨?_, ?_, ?_, ?_, ?_, ?_, ?_, ?_, ?_, ?_⟩ <;> (repeat (first | assumption | (with_reducible refine keepD ?_) | (with_reducible refine keepN ?_) | (with_reducible refine keepV ?_))))
    clear hK K
    (try simp only [Act.put, List.getElem_toArray, List.getElem_cons_zero, List.getElem_cons_succ, List.setIfInBounds_toArray, List.set_cons_zero, List.set_cons_succ])
    refine wpAnyH_ready (rs := [7]) (by kernel_rfl) (by simp) ?_
    refine AllReadyH.cons rfl (fun K hK => ?_) AllReadyH.nil
    go_simp
    (go_at_call 34; refine (H1.out _ (he.below (by repeat (first | (with_reducible assumption) | (with_reducible exact Below.refl _ _) | (with_reducible refine below_drewN ?_ _) | (with_reducible refine Below.drew ?_) | (with_reducible refine Below.setCell ?_ (by first | omega | (simp <;> omega)) _) | (with_reducible refine Below.alloc ?_ (by first | omega | (simp <;> omega)) _))))).mono ?_; rintro e w' ⟨rfl, hb⟩; have c0 : w'.cell? ⟨w.heap.size, 0, none⟩ = some (.int .u64 u0) := (by refine keepB hb (by first | omega | (simp <;> omega)) ?_; (repeat (first | assumption | (with_reducible refine keepD ?_) | (with_reducible refine keepN ?_) | (with_reducible refine keepV ?_)))); have c1 : w'.cell? ⟨w.heap.size, 1, none⟩ = some (.int .u64 u1) := (by refine keepB hb (by first | omega | (simp <;> omega)) ?_; (repeat (first | assumption | (with_reducible refine keepD ?_) | (with_reducible refine keepN ?_) | (with_reducible refine keepV ?_)))); have c2 : w'.cell? ⟨w.heap.size, 2, none⟩ = some (.int .u64 u2) := (by refine keepB hb (by first | omega | (simp <;> omega)) ?_; (repeat (first | assumption | (with_reducible refine keepD ?_) | (with_reducible refine keepN ?_) | (with_reducible refine keepV ?_)))); have c3 : w'.cell? ⟨w.heap.size, 3, none⟩ = some (.string u3) := (by refine keepB hb (by first | omega | (simp <;> omega)) ?_; (repeat (first | assumption | (with_reducible refine keepD ?_) | (with_reducible refine keepN ?_) | (with_reducible refine keepV ?_)))); have c4 : w'.cell? ⟨w.heap.size, 4, none⟩ = some (.string u4) := (by refine keepB hb (by first | omega | (simp <;> omega)) ?_; (repeat (first | assumption | (with_reducible refine keepD ?_) | (with_reducible refine keepN ?_) | (with_reducible refine keepV ?_)))); have d0 : w'.cell? ⟨w.heap.size + 1, 0, none⟩ = some (.int .u64 v0) := (by refine keepB hb (by first | omega | (simp <;> omega)) ?_; (repeat (first | assumption | (with_reducible refine keepD ?_) | (with_reducible refine keepN ?_) | (with_reducible refine keepV ?_)))); have d1 : w'.cell? ⟨w.heap.size + 1, 1, none⟩ = some (.int .u64 v1) := (by refine keepB hb (by first | omega | (simp <;> omega)) ?_; (repeat (first | assumption | (with_reducible refine keepD ?_) | (with_reducible refine keepN ?_) | (with_reducible refine keepV ?_)))); have d2 : w'.cell? ⟨w.heap.size + 1, 2, none⟩ = some (.int .u64 v2) := (by refine keepB hb (by first | omega | (simp <;> omega)) ?_; (repeat (first | assumption | (with_reducible refine keepD ?_) | (with_reducible refine keepN ?_) | (with_reducible refine keepV ?_)))); have d3 : w'.cell? ⟨w.heap.size + 1, 3, none⟩ = some (.string v3) := (by refine keepB hb (by first | omega | (simp <;> omega)) ?_; (repeat (first | assumption | (with_reducible refine keepD ?_) | (with_reducible refine keepN ?_) | (with_reducible refine keepV ?_)))); have d4 : w'.cell? ⟨w.heap.size + 1, 4, none⟩ = some (.string v4) := (by refine keepB hb (by first | omega | (simp <;> omega)) ?_; (repeat (first | assumption | (with_reducible refine keepD ?_) | (with_reducible refine keepN ?_) | (with_reducible refine keepV ?_)))); have bk : Below w.heap.size w w' := Below.trans (by repeat (first | (with_reducible assumption) | (with_reducible exact Below.refl _ _) | (with_reducible refine below_drewN ?_ _) | (with_reducible refine Below.drew ?_) | (with_reducible refine Below.setCell ?_ (by first | omega | (simp <;> omega)) _) | (with_reducible refine Below.alloc ?_ (by first | omega | (simp <;> omega)) _))) (hb.mono (by first | omega | (simp <;> omega))); have nk : w.heap.size + 2 ≤ w'.heap.size := (by have := hb.size; first | omega | (simp at this; omega)); clear hb)
    refine hK.out _ _ ?_ (fun hHeld => ?_)
    · (refine ⟨?_, ?_, ?_, ?_, ?_, ?_, ?_, ?_, ?_, ?_⟩ <;> (repeat (first | assumption | (with_reducible refine keepD ?_) | (with_reducible refine keepN ?_) | (with_reducible refine keepV ?_))))
    clear hK K
    (try simp only [Act.put, List.getElem_toArray, List.getElem_cons_zero, List.getElem_cons_succ, List.setIfInBounds_toArray, List.set_cons_zero, List.set_cons_succ])
    refine wpAnyH_take (i := 8) (v := ?_) rfl (by kernel_rfl) (by kernel_rfl) (by kernel_rfl) (fun _ _ _ h => h) (Or.inl ⟨by rfl, ?_⟩) (by assumption) ?_
    rotate_left
    · (intro w hSw; (try dsimp only at hSw); go_split_ands; go_simp; (try with_reducible rfl))
    (try simp only [Act.put, List.getElem_toArray, List.getElem_cons_zero, List.getElem_cons_succ, List.setIfInBounds_toArray, List.set_cons_zero, List.set_cons_succ])
    refine wpAnyH_take (i := 9) (v := ?_) rfl (by kernel_rfl) (by kernel_rfl) (by kernel_rfl) (fun _ _ _ h => h) (Or.inl ⟨by rfl, ?_⟩) (by assumption) ?_
    rotate_left
    · (intro w hSw; (try dsimp only at hSw); go_split_ands; go_simp; (try with_reducible rfl))
    (try simp only [Act.put, List.getElem_toArray, List.getElem_cons_zero, List.getElem_cons_succ, List.setIfInBounds_toArray, List.set_cons_zero, List.set_cons_succ])
    rw [show (!(A == B)) = true from hAB]
    refine wpAnyH_take (i := 10) (v := ?_) rfl (by kernel_rfl) (by kernel_rfl) (by kernel_rfl) (fun _ _ _ h => h) (Or.inl ⟨by rfl, ?_⟩) (by assumption) ?_
    rotate_left
    · (intro w hSw; (try dsimp only at hSw); go_split_ands; go_simp; (try with_reducible rfl))
    (try simp only [Act.put, List.getElem_toArray, List.getElem_cons_zero, List.getElem_cons_succ, List.setIfInBounds_toArray, List.set_cons_zero, List.set_cons_succ])
    refine wpAnyH_take (i := 11) (v := ?_) rfl (by kernel_rfl) (by kernel_rfl) (by kernel_rfl) (fun _ _ _ h => h) (Or.inl ⟨by rfl, ?_⟩) (by assumption) ?_
    rotate_left
    · (intro w hSw; (try dsimp only at hSw); go_split_ands; go_simp; (try with_reducible rfl))
    (try simp only [Act.put, List.getElem_toArray, List.getElem_cons_zero, List.getElem_cons_succ, List.setIfInBounds_toArray, List.set_cons_zero, List.set_cons_succ])
    refine wpAnyH_take (i := 12) (v := ?_) rfl (by kernel_rfl) (by kernel_rfl) (by kernel_rfl) (fun _ _ _ h => h) (Or.inl ⟨by rfl, ?_⟩) (by assumption) ?_
    rotate_left
    · (intro w hSw; (try dsimp only at hSw); go_split_ands; go_simp; (try with_reducible rfl))
    (try simp only [Act.put, List.getElem_toArray, List.getElem_cons_zero, List.getElem_cons_succ, List.setIfInBounds_toArray, List.set_cons_zero, List.set_cons_succ])
    refine wpAnyH_take (i := 14) (v := ?_) rfl (by kernel_rfl) (by kernel_rfl) (by kernel_rfl) (fun _ _ _ h => h) (Or.inl ⟨by rfl, ?_⟩) (by assumption) ?_
    rotate_left
    · (intro w hSw; (try dsimp only at hSw); go_split_ands; go_simp; (try with_reducible rfl))
    (try simp only [Act.put, List.getElem_toArray, List.getElem_cons_zero, List.getElem_cons_succ, List.setIfInBounds_toArray, List.set_cons_zero, List.set_cons_succ])
    refine wpAnyH_take (i := 15) (v := ?_) rfl (by kernel_rfl) (by kernel_rfl) (by kernel_rfl) (fun _ _ _ h => h) (Or.inl ⟨by rfl, ?_⟩) (by assumption) ?_
    rotate_left
    · (intro w hSw; (try dsimp only at hSw); go_split_ands; go_simp; (try with_reducible rfl))
    (try simp only [Act.put, List.getElem_toArray, List.getElem_cons_zero, List.getElem_cons_succ, List.setIfInBounds_toArray, List.set_cons_zero, List.set_cons_succ])
    refine wpAnyH_take (i := 16) (v := ?_) rfl (by kernel_rfl) (by kernel_rfl) (by kernel_rfl) (fun _ _ _ h => h) (Or.inl ⟨by rfl, ?_⟩) (by assumption) ?_
    rotate_left
    · (intro w hSw; (try dsimp only at hSw); go_split_ands; go_simp; (try with_reducible rfl))
    (try simp only [Act.put, List.getElem_toArray, List.getElem_cons_zero, List.getElem_cons_succ, List.setIfInBounds_toArray, List.set_cons_zero, List.set_cons_succ])
    refine wpAnyH_ready (rs := [13]) (by kernel_rfl) (by simp) ?_
    refine AllReadyH.cons rfl (fun K hK => ?_) AllReadyH.nil
    go_simp
    (go_at_call 34; refine (H2.out _ (he.below (by repeat (first | (with_reducible assumption) | (with_reducible exact Below.refl _ _) | (with_reducible refine below_drewN ?_ _) | (with_reducible refine Below.drew ?_) | (with_reducible refine Below.setCell ?_ (by first | omega | (simp <;> omega)) _) | (with_reducible refine Below.alloc ?_ (by first | omega | (simp <;> omega)) _))))).mono ?_; rintro e w' ⟨rfl, hb⟩; have c0 : w'.cell? ⟨w.heap.size, 0, none⟩ = some (.int .u64 u0) := (by refine keepB hb (by first | omega | (simp <;> omega)) ?_; (repeat (first | assumption | (with_reducible refine keepD ?_) | (with_reducible refine keepN ?_) | (with_reducible refine keepV ?_)))); have c1 : w'.cell? ⟨w.heap.size, 1, none⟩ = some (.int .u64 u1) := (by refine keepB hb (by first | omega | (simp <;> omega)) ?_; (repeat (first | assumption | (with_reducible refine keepD ?_) | (with_reducible refine keepN ?_) | (with_reducible refine keepV ?_)))); have c2 : w'.cell? ⟨w.heap.size, 2, none⟩ = some (.int .u64 u2) := (by refine keepB hb (by first | omega | (simp <;> omega)) ?_; (repeat (first | assumption | (with_reducible refine keepD ?_) | (with_reducible refine keepN ?_) | (with_reducible refine keepV ?_)))); have c3 : w'.cell? ⟨w.heap.size, 3, none⟩ = some (.string u3) := (by refine keepB hb (by first | omega | (simp <;> omega)) ?_; (repeat (first | assumption | (with_reducible refine keepD ?_) | (with_reducible refine keepN ?_) | (with_reducible refine keepV ?_)))); have c4 : w'.cell? ⟨w.heap.size, 4, none⟩ = some (.string u4) := (by refine keepB hb (by first | omega | (simp <;> omega)) ?_; (repeat (first | assumption | (with_reducible refine keepD ?_) | (with_reducible refine keepN ?_) | (with_reducible refine keepV ?_)))); have d0 : w'.cell? ⟨w.heap.size + 1, 0, none⟩ = some (.int .u64 v0) := (by refine keepB hb (by first | omega | (simp <;> omega)) ?_; (repeat (first | assumption | (with_reducible refine keepD ?_) | (with_reducible refine keepN ?_) | (with_reducible refine keepV ?_)))); have d1 : w'.cell? ⟨w.heap.size + 1, 1, none⟩ = some (.int .u64 v1) := (by refine keepB hb (by first | omega | (simp <;> omega)) ?_; (repeat (first | assumption | (with_reducible refine keepD ?_) | (with_reducible refine keepN ?_) | (with_reducible refine keepV ?_)))); have d2 : w'.cell? ⟨w.heap.size + 1, 2, none⟩ = some (.int .u64 v2) := (by refine keepB hb (by first | omega | (simp <;> omega)) ?_; (repeat (first | assumption | (with_reducible refine keepD ?_) | (with_reducible refine keepN ?_) | (with_reducible refine keepV ?_)))); have d3 : w'.cell? ⟨w.heap.size + 1, 3, none⟩ = some (.string v3) := (by refine keepB hb (by first | omega | (simp <;> omega)) ?_; (repeat (first | assumption | (with_reducible refine keepD ?_) | (with_reducible refine keepN ?_) | (with_reducible refine keepV ?_)))); have d4 : w'.cell? ⟨w.heap.size + 1, 4, none⟩ = some (.string v4) := (by refine keepB hb (by first | omega | (simp <;> omega)) ?_; (repeat (first | assumption | (with_reducible refine keepD ?_) | (with_reducible refine keepN ?_) | (with_reducible refine keepV ?_)))); have bk : Below w.heap.size w w' := Below.trans (by repeat (first | (with_reducible assumption) | (with_reducible exact Below.refl _ _) | (with_reducible refine below_drewN ?_ _) | (with_reducible refine Below.drew ?_) | (with_reducible refine Below.setCell ?_ (by first | omega | (simp <;> omega)) _) | (with_reducible refine Below.alloc ?_ (by first | omega | (simp <;> omega)) _))) (hb.mono (by first | omega | (simp <;> omega))); have nk : w.heap.size + 2 ≤ w'.heap.size := (by have := hb.size; first | omega | (simp at this; omega)); clear hb)
    refine hK.out _ _ ?_ (fun hHeld => ?_)
    · (refine ⟨?_, ?_, ?_, ?_, ?_, ?_, ?_, ?_, ?_, ?_⟩ <;> (repeat (first | assumption | (with_reducible refine keepD ?_) | (with_reducible refine keepN ?_) | (with_reducible refine keepV ?_))))
    clear hK K
    (try simp only [Act.put, List.getElem_toArray, List.getElem_cons_zero, List.getElem_cons_succ, List.setIfInBounds_toArray, List.set_cons_zero, List.set_cons_succ])
    refine wpAnyH_ready (rs := [17]) (by kernel_rfl) (by simp) ?_
    refine AllReadyH.cons rfl (fun K hK => ?_) AllReadyH.nil
    go_simp
    (go_at_call 34; refine (H5.out _ (he.below (by repeat (first | (with_reducible assumption) | (with_reducible exact Below.refl _ _) | (with_reducible refine below_drewN ?_ _) | (with_reducible refine Below.drew ?_) | (with_reducible refine Below.setCell ?_ (by first | omega | (simp <;> omega)) _) | (with_reducible refine Below.alloc ?_ (by first | omega | (simp <;> omega)) _))))).mono ?_; rintro e w' ⟨rfl, hb⟩; have c0 : w'.cell? ⟨w.heap.size, 0, none⟩ = some (.int .u64 u0) := (by refine keepB hb (by first | omega | (simp <;> omega)) ?_; (repeat (first | assumption | (with_reducible refine keepD ?_) | (with_reducible refine keepN ?_) | (with_reducible refine keepV ?_)))); have c1 : w'.cell? ⟨w.heap.size, 1, none⟩ = some (.int .u64 u1) := (by refine keepB hb (by first | omega | (simp <;> omega)) ?_; (repeat (first | assumption | (with_reducible refine keepD ?_) | (with_reducible refine keepN ?_) | (with_reducible refine keepV ?_)))); have c2 : w'.cell? ⟨w.heap.size, 2, none⟩ = some (.int .u64 u2) := (by refine keepB hb (by first | omega | (simp <;> omega)) ?_; (repeat (first | assumption | (with_reducible refine keepD ?_) | (with_reducible refine keepN ?_) | (with_reducible refine keepV ?_)))); have c3 : w'.cell? ⟨w.heap.size, 3, none⟩ = some (.string u3) := (by refine keepB hb (by first | omega | (simp <;> omega)) ?_; (repeat (first | assumption | (with_reducible refine keepD ?_) | (with_reducible refine keepN ?_) | (with_reducible refine keepV ?_)))); have c4 : w'.cell? ⟨w.heap.size, 4, none⟩ = some (.string u4) := (by refine keepB hb (by first | omega | (simp <;> omega)) ?_; (repeat (first | assumption | (with_reducible refine keepD ?_) | (with_reducible refine keepN ?_) | (with_reducible refine keepV ?_)))); have d0 : w'.cell? ⟨w.heap.size + 1, 0, none⟩ = some (.int .u64 v0) := (by refine keepB hb (by first | omega | (simp <;> omega)) ?_; (repeat (first | assumption | (with_reducible refine keepD ?_) | (with_reducible refine keepN ?_) | (with_reducible refine keepV ?_)))); have d1 : w'.cell? ⟨w.heap.size + 1, 1, none⟩ = some (.int .u64 v1) := (by refine keepB hb (by first | omega | (simp <;> omega)) ?_; (repeat (first | assumption | (with_reducible refine keepD ?_) | (with_reducible refine keepN ?_) | (with_reducible refine keepV ?_)))); have d2 : w'.cell? ⟨w.heap.size + 1, 2, none⟩ = some (.int .u64 v2) := (by refine keepB hb (by first | omega | (simp <;> omega)) ?_; (repeat (first | assumption | (with_reducible refine keepD ?_) | (with_reducible refine keepN ?_) | (with_reducible refine keepV ?_)))); have d3 : w'.cell? ⟨w.heap.size + 1, 3, none⟩ = some (.string v3) := (by refine keepB hb (by first | omega | (simp <;> omega)) ?_; (repeat (first | assumption | (with_reducible refine keepD ?_) | (with_reducible refine keepN ?_) | (with_reducible refine keepV ?_)))); have d4 : w'.cell? ⟨w.heap.size + 1, 4, none⟩ = some (.string v4) := (by refine keepB hb (by first | omega | (simp <;> omega)) ?_; (repeat (first | assumption | (with_reducible refine keepD ?_) | (with_reducible refine keepN ?_) | (with_reducible refine keepV ?_)))); have bk : Below w.heap.size w w' := Below.trans (by repeat (first | (with_reducible assumption) | (with_reducible exact Below.refl _ _) | (with_reducible refine below_drewN ?_ _) | (with_reducible refine Below.drew ?_) | (with_reducible refine Below.setCell ?_ (by first | omega | (simp <;> omega)) _) | (with_reducible refine Below.alloc ?_ (by first | omega | (simp <;> omega)) _))) (hb.mono (by first | omega | (simp <;> omega))); have nk : w.heap.size + 2 ≤ w'.heap.size := (by have := hb.size; first | omega | (simp at this; omega)); clear hb)
    refine hK.out _ _ ?_ (fun hHeld => ?_)
    · (refine ⟨?_, ?_, ?_, ?_, ?_, ?_, ?_, ?_, ?_, ?_⟩ <;> (repeat (first | assumption | (with_reducible refine keepD ?_) | (with_reducible refine keepN ?_) | (with_reducible refine keepV ?_))))
    clear hK K
    (try simp only [Act.put, List.getElem_toArray, List.getElem_cons_zero, List.getElem_cons_succ, List.setIfInBounds_toArray, List.set_cons_zero, List.set_cons_succ])
    refine wpAnyH_take (i := 18) (v := ?_) rfl (by kernel_rfl) (by kernel_rfl) (by kernel_rfl) (fun _ _ _ h => h) (Or.inl ⟨by rfl, ?_⟩) (by assumption) ?_
    rotate_left
    · (intro w hSw; (try dsimp only at hSw); go_split_ands; go_simp; (try with_reducible rfl))
    (try simp only [Act.put, List.getElem_toArray, List.getElem_cons_zero, List.getElem_cons_succ, List.setIfInBounds_toArray, List.set_cons_zero, List.set_cons_succ])
    refine wpAnyH_take (i := 19) (v := ?_) rfl (by kernel_rfl) (by kernel_rfl) (by kernel_rfl) (fun _ _ _ h => h) (Or.inl ⟨by rfl, ?_⟩) (by assumption) ?_
    rotate_left
    · (intro w hSw; (try dsimp only at hSw); go_split_ands; go_simp; (try with_reducible rfl))
    (try simp only [Act.put, List.getElem_toArray, List.getElem_cons_zero, List.getElem_cons_succ, List.setIfInBounds_toArray, List.set_cons_zero, List.set_cons_succ])
    refine wpAnyH_take (i := 20) (v := ?_) rfl (by kernel_rfl) (by kernel_rfl) (by kernel_rfl) (fun _ _ _ h => h) (Or.inl ⟨by rfl, ?_⟩) (by assumption) ?_
    rotate_left
    · (intro w hSw; (try dsimp only at hSw); go_split_ands; go_simp; (try with_reducible rfl))
    (try simp only [Act.put, List.getElem_toArray, List.getElem_cons_zero, List.getElem_cons_succ, List.setIfInBounds_toArray, List.set_cons_zero, List.set_cons_succ])
    rw [show (!(C == D)) = true from hCD]
    refine wpAnyH_take (i := 21) (v := ?_) rfl (by kernel_rfl) (by kernel_rfl) (by kernel_rfl) (fun _ _ _ h => h) (Or.inl ⟨by rfl, ?_⟩) (by assumption) ?_
    rotate_left
    · (intro w hSw; (try dsimp only at hSw); go_split_ands; go_simp; (try with_reducible rfl))
    (try simp only [Act.put, List.getElem_toArray, List.getElem_cons_zero, List.getElem_cons_succ, List.setIfInBounds_toArray, List.set_cons_zero, List.set_cons_succ])
    refine wpAnyH_take (i := 22) (v := ?_) rfl (by kernel_rfl) (by kernel_rfl) (by kernel_rfl) (fun _ _ _ h => h) (Or.inl ⟨by rfl, ?_⟩) (by assumption) ?_
    rotate_left
    · (intro w hSw; (try dsimp only at hSw); go_split_ands; go_simp; (try with_reducible rfl))
    (try simp only [Act.put, List.getElem_toArray, List.getElem_cons_zero, List.getElem_cons_succ, List.setIfInBounds_toArray, List.set_cons_zero, List.set_cons_succ])
    refine wpAnyH_take (i := 23) (v := ?_) rfl (by kernel_rfl) (by kernel_rfl) (by kernel_rfl) (fun _ _ _ h => h) (Or.inl ⟨by rfl, ?_⟩) (by assumption) ?_
    rotate_left
    · (intro w hSw; (try dsimp only at hSw); go_split_ands; go_simp; (try with_reducible rfl))
    (try simp only [Act.put, List.getElem_toArray, List.getElem_cons_zero, List.getElem_cons_succ, List.setIfInBounds_toArray, List.set_cons_zero, List.set_cons_succ])
    refine wpAnyH_take (i := 25) (v := ?_) rfl (by kernel_rfl) (by kernel_rfl) (by kernel_rfl) (fun _ _ _ h => h) (Or.inl ⟨by rfl, ?_⟩) (by assumption) ?_
    rotate_left
    · (intro w hSw; (try dsimp only at hSw); go_split_ands; go_simp; (try with_reducible rfl))
    (try simp only [Act.put, List.getElem_toArray, List.getElem_cons_zero, List.getElem_cons_succ, List.setIfInBounds_toArray, List.set_cons_zero, List.set_cons_succ])
    refine wpAnyH_take (i := 26) (v := ?_) rfl (by kernel_rfl) (by kernel_rfl) (by kernel_rfl) (fun _ _ _ h => h) (Or.inl ⟨by rfl, ?_⟩) (by assumption) ?_
    rotate_left
    · (intro w hSw; (try dsimp only at hSw); go_split_ands; go_simp; (try with_reducible rfl))
    (try simp only [Act.put, List.getElem_toArray, List.getElem_cons_zero, List.getElem_cons_succ, List.setIfInBounds_toArray, List.set_cons_zero, List.set_cons_succ])
    refine wpAnyH_take (i := 27) (v := ?_) rfl (by kernel_rfl) (by kernel_rfl) (by kernel_rfl) (fun _ _ _ h => h) (Or.inl ⟨by rfl, ?_⟩) (by assumption) ?_
    rotate_left
    · (intro w hSw; (try dsimp only at hSw); go_split_ands; go_simp; (try with_reducible rfl))
    (try simp only [Act.put, List.getElem_toArray, List.getElem_cons_zero, List.getElem_cons_succ, List.setIfInBounds_toArray, List.set_cons_zero, List.set_cons_succ])
    refine wpAnyH_ready (rs := [24]) (by kernel_rfl) (by simp) ?_
    refine AllReadyH.cons rfl (fun K hK => ?_) AllReadyH.nil
    go_simp
    (go_at_call 34; refine (H3.out _ (he.below (by repeat (first | (with_reducible assumption) | (with_reducible exact Below.refl _ _) | (with_reducible refine below_drewN ?_ _) | (with_reducible refine Below.drew ?_) | (with_reducible refine Below.setCell ?_ (by first | omega | (simp <;> omega)) _) | (with_reducible refine Below.alloc ?_ (by first | omega | (simp <;> omega)) _))))).mono ?_; rintro e w' ⟨rfl, hb⟩; have c0 : w'.cell? ⟨w.heap.size, 0, none⟩ = some (.int .u64 u0) := (by refine keepB hb (by first | omega | (simp <;> omega)) ?_; (repeat (first | assumption | (with_reducible refine keepD ?_) | (with_reducible refine keepN ?_) | (with_reducible refine keepV ?_)))); have c1 : w'.cell? ⟨w.heap.size, 1, none⟩ = some (.int .u64 u1) := (by refine keepB hb (by first | omega | (simp <;> omega)) ?_; (repeat (first | assumption | (with_reducible refine keepD ?_) | (with_reducible refine keepN ?_) | (with_reducible refine keepV ?_)))); have c2 : w'.cell? ⟨w.heap.size, 2, none⟩ = some (.int .u64 u2) := (by refine keepB hb (by first | omega | (simp <;> omega)) ?_; (repeat (first | assumption | (with_reducible refine keepD ?_) | (with_reducible refine keepN ?_) | (with_reducible refine keepV ?_)))); have c3 : w'.cell? ⟨w.heap.size, 3, none⟩ = some (.string u3) := (by refine keepB hb (by first | omega | (simp <;> omega)) ?_; (repeat (first | assumption | (with_reducible refine keepD ?_) | (with_reducible refine keepN ?_) | (with_reducible refine keepV ?_)))); have c4 : w'.cell? ⟨w.heap.size, 4, none⟩ = some (.string u4) := (by refine keepB hb (by first | omega | (simp <;> omega)) ?_; (repeat (first | assumption | (with_reducible refine keepD ?_) | (with_reducible refine keepN ?_) | (with_reducible refine keepV ?_)))); have d0 : w'.cell? ⟨w.heap.size + 1, 0, none⟩ = some (.int .u64 v0) := (by refine keepB hb (by first | omega | (simp <;> omega)) ?_; (repeat (first | assumption | (with_reducible refine keepD ?_) | (with_reducible refine keepN ?_) | (with_reducible refine keepV ?_)))); have d1 : w'.cell? ⟨w.heap.size + 1, 1, none⟩ = some (.int .u64 v1) := (by refine keepB hb (by first | omega | (simp <;> omega)) ?_; (repeat (first | assumption | (with_reducible refine keepD ?_) | (with_reducible refine keepN ?_) | (with_reducible refine keepV ?_)))); have d2 : w'.cell? ⟨w.heap.size + 1, 2, none⟩ = some (.int .u64 v2) := (by refine keepB hb (by first | omega | (simp <;> omega)) ?_; (repeat (first | assumption | (with_reducible refine keepD ?_) | (with_reducible refine keepN ?_) | (with_reducible refine keepV ?_)))); have d3 : w'.cell? ⟨w.heap.size + 1, 3, none⟩ = some (.string v3) := (by refine keepB hb (by first | omega | (simp <;> omega)) ?_; (repeat (first | assumption | (with_reducible refine keepD ?_) | (with_reducible refine keepN ?_) | (with_reducible refine keepV ?_)))); have d4 : w'.cell? ⟨w.heap.size + 1, 4, none⟩ = some (.string v4) := (by refine keepB hb (by first | omega | (simp <;> omega)) ?_; (repeat (first | assumption | (with_reducible refine keepD ?_) | (with_reducible refine keepN ?_) | (with_reducible refine keepV ?_)))); have bk : Below w.heap.size w w' := Below.trans (by repeat (first | (with_reducible assumption) | (with_reducible exact Below.refl _ _) | (with_reducible refine below_drewN ?_ _) | (with_reducible refine Below.drew ?_) | (with_reducible refine Below.setCell ?_ (by first | omega | (simp <;> omega)) _) | (with_reducible refine Below.alloc ?_ (by first | omega | (simp <;> omega)) _))) (hb.mono (by first | omega | (simp <;> omega))); have nk : w.heap.size + 2 ≤ w'.heap.size := (by have := hb.size; first | omega | (simp at this; omega)); clear hb)
    refine hK.out _ _ ?_ (fun hHeld => ?_)
    · (refine ⟨?_, ?_, ?_, ?_, ?_, ?_, ?_, ?_, ?_, ?_⟩ <;> (repeat (first | assumption | (with_reducible refine keepD ?_) | (with_reducible refine keepN ?_) | (with_reducible refine keepV ?_))))
    clear hK K
    (try simp only [Act.put, List.getElem_toArray, List.getElem_cons_zero, List.getElem_cons_succ, List.setIfInBounds_toArray, List.set_cons_zero, List.set_cons_succ])
    refine wpAnyH_ready (rs := [28]) (by kernel_rfl) (by simp) ?_
    refine AllReadyH.cons rfl (fun K hK => ?_) AllReadyH.nil
    go_simp
    (go_at_call 34; refine (H4.out _ (he.below (by repeat (first | (with_reducible assumption) | (with_reducible exact Below.refl _ _) | (with_reducible refine below_drewN ?_ _) | (with_reducible refine Below.drew ?_) | (with_reducible refine Below.setCell ?_ (by first | omega | (simp <;> omega)) _) | (with_reducible refine Below.alloc ?_ (by first | omega | (simp <;> omega)) _))))).mono ?_; rintro e w' ⟨rfl, hb⟩; have c0 : w'.cell? ⟨w.heap.size, 0, none⟩ = some (.int .u64 u0) := (by refine keepB hb (by first | omega | (simp <;> omega)) ?_; (repeat (first | assumption | (with_reducible refine keepD ?_) | (with_reducible refine keepN ?_) | (with_reducible refine keepV ?_)))); have c1 : w'.cell? ⟨w.heap.size, 1, none⟩ = some (.int .u64 u1) := (by refine keepB hb (by first | omega | (simp <;> omega)) ?_; (repeat (first | assumption | (with_reducible refine keepD ?_) | (with_reducible refine keepN ?_) | (with_reducible refine keepV ?_)))); have c2 : w'.cell? ⟨w.heap.size, 2, none⟩ = some (.int .u64 u2) := (by refine keepB hb (by first | omega | (simp <;> omega)) ?_; (repeat (first | assumption | (with_reducible refine keepD ?_) | (with_reducible refine keepN ?_) | (with_reducible refine keepV ?_)))); have c3 : w'.cell? ⟨w.heap.size, 3, none⟩ = some (.string u3) := (by refine keepB hb (by first | omega | (simp <;> omega)) ?_; (repeat (first | assumption | (with_reducible refine keepD ?_) | (with_reducible refine keepN ?_) | (with_reducible refine keepV ?_)))); have c4 : w'.cell? ⟨w.heap.size, 4, none⟩ = some (.string u4) := (by refine keepB hb (by first | omega | (simp <;> omega)) ?_; (repeat (first | assumption | (with_reducible refine keepD ?_) | (with_reducible refine keepN ?_) | (with_reducible refine keepV ?_)))); have d0 : w'.cell? ⟨w.heap.size + 1, 0, none⟩ = some (.int .u64 v0) := (by refine keepB hb (by first | omega | (simp <;> omega)) ?_; (repeat (first | assumption | (with_reducible refine keepD ?_) | (with_reducible refine keepN ?_) | (with_reducible refine keepV ?_)))); have d1 : w'.cell? ⟨w.heap.size + 1, 1, none⟩ = some (.int .u64 v1) := (by refine keepB hb (by first | omega | (simp <;> omega)) ?_; (repeat (first | assumption | (with_reducible refine keepD ?_) | (with_reducible refine keepN ?_) | (with_reducible refine keepV ?_)))); have d2 : w'.cell? ⟨w.heap.size + 1, 2, none⟩ = some (.int .u64 v2) := (by refine keepB hb (by first | omega | (simp <;> omega)) ?_; (repeat (first | assumption | (with_reducible refine keepD ?_) | (with_reducible refine keepN ?_) | (with_reducible refine keepV ?_)))); have d3 : w'.cell? ⟨w.heap.size + 1, 3, none⟩ = some (.string v3) := (by refine keepB hb (by first | omega | (simp <;> omega)) ?_; (repeat (first | assumption | (with_reducible refine keepD ?_) | (with_reducible refine keepN ?_) | (with_reducible refine keepV ?_)))); have d4 : w'.cell? ⟨w.heap.size + 1, 4, none⟩ = some (.string v4) := (by refine keepB hb (by first | omega | (simp <;> omega)) ?_; (repeat (first | assumption | (with_reducible refine keepD ?_) | (with_reducible refine keepN ?_) | (with_reducible refine keepV ?_)))); have bk : Below w.heap.size w w' := Below.trans (by repeat (first | (with_reducible assumption) | (with_reducible exact Below.refl _ _) | (with_reducible refine below_drewN ?_ _) | (with_reducible refine Below.drew ?_) | (with_reducible refine Below.setCell ?_ (by first | omega | (simp <;> omega)) _) | (with_reducible refine Below.alloc ?_ (by first | omega | (simp <;> omega)) _))) (hb.mono (by first | omega | (simp <;> omega))); have nk : w.heap.size + 2 ≤ w'.heap.size := (by have := hb.size; first | omega | (simp at this; omega)); clear hb)
    refine hK.out _ _ ?_ (fun hHeld => ?_)
    · (refine ⟨?_, ?_, ?_, ?_, ?_, ?_, ?_, ?_, ?_, ?_⟩ <;> (repeat (first | assumption | (with_reducible refine keepD ?_) | (with_reducible refine keepN ?_) | (with_reducible refine keepV ?_))))
    clear hK K
    (try simp only [Act.put, List.getElem_toArray, List.getElem_cons_zero, List.getElem_cons_succ, List.setIfInBounds_toArray, List.set_cons_zero, List.set_cons_succ])
    refine wpAnyH_take (i := 29) (v := ?_) rfl (by kernel_rfl) (by kernel_rfl) (by kernel_rfl) (fun _ _ _ h => h) (Or.inl ⟨by rfl, ?_⟩) (by assumption) ?_
    rotate_left
    · (intro w hSw; (try dsimp only at hSw); go_split_ands; go_simp; (try with_reducible rfl))
    (try simp only [Act.put, List.getElem_toArray, List.getElem_cons_zero, List.getElem_cons_succ, List.setIfInBounds_toArray, List.set_cons_zero, List.set_cons_succ])
    refine wpAnyH_take (i := 30) (v := ?_) rfl (by kernel_rfl) (by kernel_rfl) (by kernel_rfl) (fun _ _ _ h => h) (Or.inl ⟨by rfl, ?_⟩) (by assumption) ?_
    rotate_left
    · (intro w hSw; (try dsimp only at hSw); go_split_ands; go_simp; (try with_reducible rfl))
    (try simp only [Act.put, List.getElem_toArray, List.getElem_cons_zero, List.getElem_cons_succ, List.setIfInBounds_toArray, List.set_cons_zero, List.set_cons_succ])
    refine wpAnyH_take (i := 31) (v := ?_) rfl (by kernel_rfl) (by kernel_rfl) (by kernel_rfl) (fun _ _ _ h => h) (Or.inl ⟨by rfl, ?_⟩) (by assumption) ?_
    rotate_left
    · (intro w hSw; (try dsimp only at hSw); go_split_ands; go_simp; (try with_reducible rfl))
    (try simp only [Act.put, List.getElem_toArray, List.getElem_cons_zero, List.getElem_cons_succ, List.setIfInBounds_toArray, List.set_cons_zero, List.set_cons_succ])
    rw [show (!(E == F)) = true from hEF]
    refine wpAnyH_done (by kernel_rfl) ?_ _
    go_wp2_with fail
    go_ret
    exact ⟨rfl, (by repeat (first | (with_reducible assumption) | (with_reducible exact Below.refl _ _) | (with_reducible refine below_drewN ?_ _) | (with_reducible refine Below.drew ?_) | (with_reducible refine Below.setCell ?_ (by first | omega | (simp <;> omega)) _) | (with_reducible refine Below.alloc ?_ (by first | omega | (simp <;> omega)) _)))⟩

end Go.Proofs.YtdlpcfhhpjjjmaaDoor
