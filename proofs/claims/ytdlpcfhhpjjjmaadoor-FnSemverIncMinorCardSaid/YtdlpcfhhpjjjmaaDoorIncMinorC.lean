/- laws.FnSemverIncMinor, walked. -/
import Derived.Test.YtdlpcfhhpjjjmaaDoorIncMinorB
import Derived.Test.YtdlpcfhhpjjjmaaDoorWPreInv
namespace Go.Proofs.YtdlpcfhhpjjjmaaDoor
open Go.RowKit
set_option linter.unusedVariables false
set_option linter.unusedSimpArgs false

theorem row1d (W : World) (g : Nat) (hn : g = W.heap.size) (v1 : VP) : RowAt (W.alloc (.cells #[.int .u64 v1.1, .int .u64 v1.2.1, .int .u64 v1.2.2.1, .string v1.2.2.2.1, .string v1.2.2.2.2] 25)).drew g [v1] := fun i hi => row1 W g hn v1 i hi

set_option maxRecDepth 100000 in
set_option maxHeartbeats 4000000 in
theorem incMinor_bad (a b c : Int) (p m : ByteArray) (hp : p.size ≤ 2147483647) (hm : m.size ≤ 2147483647) (w : World) (ht : Hid (Tab10 w)) (HBG : Hid (goodAll [(a, b, c, p, m)] = false)) :
    Calls Tryd.prog 14 #[.agg (plainC a b c p m)] w (BoolPost true w) := by
  go_enter Tryd.func14, Tryd.ntmps14
  go_wp2_with fail
  refine (fits14_any a b c p m true (by simp; omega) _).mono ?_
  rintro e w1 ⟨rfl, rfl⟩
  go_wp2_with fail
  have c0 : ((w.alloc (.cells (plainC a b c p m) 25)).alloc (.cells (plainC a b c p m) 25)).cell? ⟨w.heap.size, 0, none⟩ = some (.int .u64 a) := ((plainAt_last _ _ _ rfl).alloc _).cell 0
  have c1 : ((w.alloc (.cells (plainC a b c p m) 25)).alloc (.cells (plainC a b c p m) 25)).cell? ⟨w.heap.size, 1, none⟩ = some (.int .u64 b) := ((plainAt_last _ _ _ rfl).alloc _).cell 1
  have c2 : ((w.alloc (.cells (plainC a b c p m) 25)).alloc (.cells (plainC a b c p m) 25)).cell? ⟨w.heap.size, 2, none⟩ = some (.int .u64 c) := ((plainAt_last _ _ _ rfl).alloc _).cell 2
  have c3 : ((w.alloc (.cells (plainC a b c p m) 25)).alloc (.cells (plainC a b c p m) 25)).cell? ⟨w.heap.size, 3, none⟩ = some (.string p) := ((plainAt_last _ _ _ rfl).alloc _).cell 3
  have c4 : ((w.alloc (.cells (plainC a b c p m) 25)).alloc (.cells (plainC a b c p m) 25)).cell? ⟨w.heap.size, 4, none⟩ = some (.string m) := ((plainAt_last _ _ _ rfl).alloc _).cell 4
  refine wp_region_held_drew (S := (fun w' => w'.cell? ⟨w.heap.size, 0, none⟩ = some (.int .u64 a) ∧ w'.cell? ⟨w.heap.size, 1, none⟩ = some (.int .u64 b) ∧ w'.cell? ⟨w.heap.size, 2, none⟩ = some (.int .u64 c) ∧ w'.cell? ⟨w.heap.size, 3, none⟩ = some (.string p) ∧ w'.cell? ⟨w.heap.size, 4, none⟩ = some (.string m))) (by kernel_rfl) ?_ (fun hHeld => ?_)
  · (refine ⟨?_, ?_, ?_, ?_, ?_⟩ <;> (repeat (first | assumption | (with_reducible refine keepD ?_) | (with_reducible refine keepN ?_) | (with_reducible refine keepV ?_))))
  refine wpAnyH_take (i := 0) (v := ?_) rfl (by kernel_rfl) (by kernel_rfl) (by kernel_rfl) (fun _ _ _ h => h) (Or.inl ⟨by rfl, ?_⟩) (by assumption) ?_
  rotate_left
  · (intro w hSw; (try dsimp only at hSw); go_split_ands; go_simp; (try with_reducible rfl))
  (try simp only [Act.put, List.getElem_toArray, List.getElem_cons_zero, List.getElem_cons_succ, List.setIfInBounds_toArray, List.set_cons_zero, List.set_cons_succ])
  refine wpAnyH_ready (rs := [1]) (by kernel_rfl) (by simp) ?_
  refine AllReadyH.cons rfl (fun K hK => ?_) AllReadyH.nil
  go_simp
  refine hK.out _ _ ?_ (fun hHeld => ?_)
  · (refine ⟨?_, ?_, ?_, ?_, ?_⟩ <;> (repeat (first | assumption | (with_reducible refine keepD ?_) | (with_reducible refine keepN ?_) | (with_reducible refine keepV ?_))))
  clear hK K
  (try simp only [Act.put, List.getElem_toArray, List.getElem_cons_zero, List.getElem_cons_succ, List.setIfInBounds_toArray, List.set_cons_zero, List.set_cons_succ])
  refine wpAnyH_ready (rs := [2]) (by kernel_rfl) (by simp) ?_
  refine AllReadyH.cons rfl (fun K hK => ?_) AllReadyH.nil
  go_simp
  (first | (go_at_call 15; refine (svGood_any _ 1 [(a, b, c, p, m)] (by simp) (by simp) (fun i => by rcases i with _ | i <;> first | exact ⟨hp, hm⟩ | exact ⟨Nat.zero_le _, Nat.zero_le _⟩) _ (by first | omega | (simp <;> omega)) (row1d _ _ (by simp) (a, b, c, p, m))).mono ?_; rintro e w' ⟨rfl, hb⟩; rw [HBG.out]; have c0 : w'.cell? ⟨w.heap.size, 0, none⟩ = some (.int .u64 a) := (by refine keepB hb (by first | omega | (simp <;> omega)) ?_; (repeat (first | assumption | (with_reducible refine keepD ?_) | (with_reducible refine keepN ?_) | (with_reducible refine keepV ?_)))); have c1 : w'.cell? ⟨w.heap.size, 1, none⟩ = some (.int .u64 b) := (by refine keepB hb (by first | omega | (simp <;> omega)) ?_; (repeat (first | assumption | (with_reducible refine keepD ?_) | (with_reducible refine keepN ?_) | (with_reducible refine keepV ?_)))); have c2 : w'.cell? ⟨w.heap.size, 2, none⟩ = some (.int .u64 c) := (by refine keepB hb (by first | omega | (simp <;> omega)) ?_; (repeat (first | assumption | (with_reducible refine keepD ?_) | (with_reducible refine keepN ?_) | (with_reducible refine keepV ?_)))); have c3 : w'.cell? ⟨w.heap.size, 3, none⟩ = some (.string p) := (by refine keepB hb (by first | omega | (simp <;> omega)) ?_; (repeat (first | assumption | (with_reducible refine keepD ?_) | (with_reducible refine keepN ?_) | (with_reducible refine keepV ?_)))); have c4 : w'.cell? ⟨w.heap.size, 4, none⟩ = some (.string m) := (by refine keepB hb (by first | omega | (simp <;> omega)) ?_; (repeat (first | assumption | (with_reducible refine keepD ?_) | (with_reducible refine keepN ?_) | (with_reducible refine keepV ?_)))); have bk : Below w.heap.size w w' := Below.trans (by repeat (first | (with_reducible assumption) | (with_reducible exact Below.refl _ _) | (with_reducible refine Below.drew ?_) | (with_reducible refine Below.alloc ?_ (by first | omega | (simp <;> omega)) _))) (hb.mono (by first | omega | (simp <;> omega))); have nk : w.heap.size + 1 ≤ w'.heap.size := (by have := hb.size; first | omega | (simp at this; omega))) | (go_at_call 52; refine (verIncMinor_any a b c p m a0 a1 b0 b1 _ (tabBelow ht (by repeat (first | (with_reducible assumption) | (with_reducible exact Below.refl _ _) | (with_reducible refine Below.drew ?_) | (with_reducible refine Below.alloc ?_ (by first | omega | (simp <;> omega)) _))))).mono ?_; rintro e w' ⟨rfl, hb⟩; have c0 : w'.cell? ⟨w.heap.size, 0, none⟩ = some (.int .u64 a) := (by refine keepB hb (by first | omega | (simp <;> omega)) ?_; (repeat (first | assumption | (with_reducible refine keepD ?_) | (with_reducible refine keepN ?_) | (with_reducible refine keepV ?_)))); have c1 : w'.cell? ⟨w.heap.size, 1, none⟩ = some (.int .u64 b) := (by refine keepB hb (by first | omega | (simp <;> omega)) ?_; (repeat (first | assumption | (with_reducible refine keepD ?_) | (with_reducible refine keepN ?_) | (with_reducible refine keepV ?_)))); have c2 : w'.cell? ⟨w.heap.size, 2, none⟩ = some (.int .u64 c) := (by refine keepB hb (by first | omega | (simp <;> omega)) ?_; (repeat (first | assumption | (with_reducible refine keepD ?_) | (with_reducible refine keepN ?_) | (with_reducible refine keepV ?_)))); have c3 : w'.cell? ⟨w.heap.size, 3, none⟩ = some (.string p) := (by refine keepB hb (by first | omega | (simp <;> omega)) ?_; (repeat (first | assumption | (with_reducible refine keepD ?_) | (with_reducible refine keepN ?_) | (with_reducible refine keepV ?_)))); have c4 : w'.cell? ⟨w.heap.size, 4, none⟩ = some (.string m) := (by refine keepB hb (by first | omega | (simp <;> omega)) ?_; (repeat (first | assumption | (with_reducible refine keepD ?_) | (with_reducible refine keepN ?_) | (with_reducible refine keepV ?_)))); have bk : Below w.heap.size w w' := Below.trans (by repeat (first | (with_reducible assumption) | (with_reducible exact Below.refl _ _) | (with_reducible refine Below.drew ?_) | (with_reducible refine Below.alloc ?_ (by first | omega | (simp <;> omega)) _))) (hb.mono (by first | omega | (simp <;> omega))); have nk : w.heap.size + 1 ≤ w'.heap.size := (by have := hb.size; first | omega | (simp at this; omega))) | (go_at_call 53; refine (spIncMinor_any a b c p m b0 b1 _).mono ?_; rintro e w' ⟨rfl, hb⟩; have c0 : w'.cell? ⟨w.heap.size, 0, none⟩ = some (.int .u64 a) := (by refine keepB hb (by first | omega | (simp <;> omega)) ?_; (repeat (first | assumption | (with_reducible refine keepD ?_) | (with_reducible refine keepN ?_) | (with_reducible refine keepV ?_)))); have c1 : w'.cell? ⟨w.heap.size, 1, none⟩ = some (.int .u64 b) := (by refine keepB hb (by first | omega | (simp <;> omega)) ?_; (repeat (first | assumption | (with_reducible refine keepD ?_) | (with_reducible refine keepN ?_) | (with_reducible refine keepV ?_)))); have c2 : w'.cell? ⟨w.heap.size, 2, none⟩ = some (.int .u64 c) := (by refine keepB hb (by first | omega | (simp <;> omega)) ?_; (repeat (first | assumption | (with_reducible refine keepD ?_) | (with_reducible refine keepN ?_) | (with_reducible refine keepV ?_)))); have c3 : w'.cell? ⟨w.heap.size, 3, none⟩ = some (.string p) := (by refine keepB hb (by first | omega | (simp <;> omega)) ?_; (repeat (first | assumption | (with_reducible refine keepD ?_) | (with_reducible refine keepN ?_) | (with_reducible refine keepV ?_)))); have c4 : w'.cell? ⟨w.heap.size, 4, none⟩ = some (.string m) := (by refine keepB hb (by first | omega | (simp <;> omega)) ?_; (repeat (first | assumption | (with_reducible refine keepD ?_) | (with_reducible refine keepN ?_) | (with_reducible refine keepV ?_)))); have bk : Below w.heap.size w w' := Below.trans (by repeat (first | (with_reducible assumption) | (with_reducible exact Below.refl _ _) | (with_reducible refine Below.drew ?_) | (with_reducible refine Below.alloc ?_ (by first | omega | (simp <;> omega)) _))) (hb.mono (by first | omega | (simp <;> omega))); have nk : w.heap.size + 1 ≤ w'.heap.size := (by have := hb.size; first | omega | (simp at this; omega))))
  refine hK.out _ _ ?_ (fun hHeld => ?_)
  · (refine ⟨?_, ?_, ?_, ?_, ?_⟩ <;> (repeat (first | assumption | (with_reducible refine keepD ?_) | (with_reducible refine keepN ?_) | (with_reducible refine keepV ?_))))
  clear hK K
  (try simp only [Act.put, List.getElem_toArray, List.getElem_cons_zero, List.getElem_cons_succ, List.setIfInBounds_toArray, List.set_cons_zero, List.set_cons_succ])
  refine wpAnyH_take (i := 3) (v := ?_) rfl (by kernel_rfl) (by kernel_rfl) (by kernel_rfl) (fun _ _ _ h => h) (Or.inl ⟨by rfl, ?_⟩) (by assumption) ?_
  rotate_left
  · (intro w hSw; (try dsimp only at hSw); go_split_ands; go_simp; (try with_reducible rfl))
  (try simp only [Act.put, List.getElem_toArray, List.getElem_cons_zero, List.getElem_cons_succ, List.setIfInBounds_toArray, List.set_cons_zero, List.set_cons_succ])
  refine wpAnyH_take (i := 4) (v := ?_) rfl (by kernel_rfl) (by kernel_rfl) (by kernel_rfl) (fun _ _ _ h => h) (Or.inl ⟨by rfl, ?_⟩) (by assumption) ?_
  rotate_left
  · (intro w hSw; (try dsimp only at hSw); go_split_ands; go_simp; (try with_reducible rfl))
  (try simp only [Act.put, List.getElem_toArray, List.getElem_cons_zero, List.getElem_cons_succ, List.setIfInBounds_toArray, List.set_cons_zero, List.set_cons_succ])
  refine wpAnyH_take (i := 5) (v := undef) rfl (by kernel_rfl) (by kernel_rfl) (by kernel_rfl) (fun _ _ _ h => h) (Or.inr ⟨by rfl, rfl⟩) (by assumption) ?_
  (try simp only [Act.put, List.getElem_toArray, List.getElem_cons_zero, List.getElem_cons_succ, List.setIfInBounds_toArray, List.set_cons_zero, List.set_cons_succ])
  refine wpAnyH_take (i := 6) (v := undef) rfl (by kernel_rfl) (by kernel_rfl) (by kernel_rfl) (fun _ _ _ h => h) (Or.inr ⟨by rfl, rfl⟩) (by assumption) ?_
  (try simp only [Act.put, List.getElem_toArray, List.getElem_cons_zero, List.getElem_cons_succ, List.setIfInBounds_toArray, List.set_cons_zero, List.set_cons_succ])
  refine wpAnyH_take (i := 7) (v := undef) rfl (by kernel_rfl) (by kernel_rfl) (by kernel_rfl) (fun _ _ _ h => h) (Or.inr ⟨by rfl, rfl⟩) (by assumption) ?_
  (try simp only [Act.put, List.getElem_toArray, List.getElem_cons_zero, List.getElem_cons_succ, List.setIfInBounds_toArray, List.set_cons_zero, List.set_cons_succ])
  refine wpAnyH_take (i := 8) (v := undef) rfl (by kernel_rfl) (by kernel_rfl) (by kernel_rfl) (fun _ _ _ h => h) (Or.inr ⟨by rfl, rfl⟩) (by assumption) ?_
  (try simp only [Act.put, List.getElem_toArray, List.getElem_cons_zero, List.getElem_cons_succ, List.setIfInBounds_toArray, List.set_cons_zero, List.set_cons_succ])
  refine wpAnyH_take (i := 9) (v := ?_) rfl (by kernel_rfl) (by kernel_rfl) (by kernel_rfl) (fun _ _ _ h => h) (Or.inl ⟨by rfl, ?_⟩) (by assumption) ?_
  rotate_left
  · (intro w hSw; (try dsimp only at hSw); go_split_ands; go_simp; (try with_reducible rfl))
  (try simp only [Act.put, List.getElem_toArray, List.getElem_cons_zero, List.getElem_cons_succ, List.setIfInBounds_toArray, List.set_cons_zero, List.set_cons_succ])
  refine wpAnyH_take (i := 10) (v := ?_) rfl (by kernel_rfl) (by kernel_rfl) (by kernel_rfl) (fun _ _ _ h => h) (Or.inl ⟨by rfl, ?_⟩) (by assumption) ?_
  rotate_left
  · (intro w hSw; (try dsimp only at hSw); go_split_ands; go_simp; (try with_reducible rfl))
  (try simp only [Act.put, List.getElem_toArray, List.getElem_cons_zero, List.getElem_cons_succ, List.setIfInBounds_toArray, List.set_cons_zero, List.set_cons_succ])
  refine wpAnyH_take (i := 11) (v := undef) rfl (by kernel_rfl) (by kernel_rfl) (by kernel_rfl) (fun _ _ _ h => h) (Or.inr ⟨by rfl, rfl⟩) (by assumption) ?_
  (try simp only [Act.put, List.getElem_toArray, List.getElem_cons_zero, List.getElem_cons_succ, List.setIfInBounds_toArray, List.set_cons_zero, List.set_cons_succ])
  refine wpAnyH_take (i := 12) (v := undef) rfl (by kernel_rfl) (by kernel_rfl) (by kernel_rfl) (fun _ _ _ h => h) (Or.inr ⟨by rfl, rfl⟩) (by assumption) ?_
  (try simp only [Act.put, List.getElem_toArray, List.getElem_cons_zero, List.getElem_cons_succ, List.setIfInBounds_toArray, List.set_cons_zero, List.set_cons_succ])
  refine wpAnyH_take (i := 13) (v := undef) rfl (by kernel_rfl) (by kernel_rfl) (by kernel_rfl) (fun _ _ _ h => h) (Or.inr ⟨by rfl, rfl⟩) (by assumption) ?_
  (try simp only [Act.put, List.getElem_toArray, List.getElem_cons_zero, List.getElem_cons_succ, List.setIfInBounds_toArray, List.set_cons_zero, List.set_cons_succ])
  refine wpAnyH_take (i := 14) (v := undef) rfl (by kernel_rfl) (by kernel_rfl) (by kernel_rfl) (fun _ _ _ h => h) (Or.inr ⟨by rfl, rfl⟩) (by assumption) ?_
  (try simp only [Act.put, List.getElem_toArray, List.getElem_cons_zero, List.getElem_cons_succ, List.setIfInBounds_toArray, List.set_cons_zero, List.set_cons_succ])
  refine wpAnyH_take (i := 15) (v := undef) rfl (by kernel_rfl) (by kernel_rfl) (by kernel_rfl) (fun _ _ _ h => h) (Or.inr ⟨by rfl, rfl⟩) (by assumption) ?_
  (try simp only [Act.put, List.getElem_toArray, List.getElem_cons_zero, List.getElem_cons_succ, List.setIfInBounds_toArray, List.set_cons_zero, List.set_cons_succ])
  refine wpAnyH_take (i := 16) (v := ?_) rfl (by kernel_rfl) (by kernel_rfl) (by kernel_rfl) (fun _ _ _ h => h) (Or.inl ⟨by rfl, ?_⟩) (by assumption) ?_
  rotate_left
  · (intro w hSw; (try dsimp only at hSw); go_split_ands; go_simp; (try with_reducible rfl))
  (try simp only [Act.put, List.getElem_toArray, List.getElem_cons_zero, List.getElem_cons_succ, List.setIfInBounds_toArray, List.set_cons_zero, List.set_cons_succ])
  refine wpAnyH_take (i := 17) (v := ?_) rfl (by kernel_rfl) (by kernel_rfl) (by kernel_rfl) (fun _ _ _ h => h) (Or.inl ⟨by rfl, ?_⟩) (by assumption) ?_
  rotate_left
  · (intro w hSw; (try dsimp only at hSw); go_split_ands; go_simp; (try with_reducible rfl))
  (try simp only [Act.put, List.getElem_toArray, List.getElem_cons_zero, List.getElem_cons_succ, List.setIfInBounds_toArray, List.set_cons_zero, List.set_cons_succ])
  refine wpAnyH_done (by kernel_rfl) ?_ _
  go_wp2_with fail
  go_ret
  exact ⟨rfl, bk⟩

set_option maxRecDepth 100000 in
set_option maxHeartbeats 4000000 in
theorem incMinor_top (a b c : Int) (p m : ByteArray) (hp : p.size ≤ 2147483647) (hm : m.size ≤ 2147483647) (w : World) (ht : Hid (Tab10 w)) (HBG : Hid (goodAll [(a, b, c, p, m)] = true)) (hw1 : IntKind.u64.wrap (b + 1) = 0) :
    Calls Tryd.prog 14 #[.agg (plainC a b c p m)] w (BoolPost true w) := by
  go_enter Tryd.func14, Tryd.ntmps14
  go_wp2_with fail
  refine (fits14_any a b c p m true (by simp; omega) _).mono ?_
  rintro e w1 ⟨rfl, rfl⟩
  go_wp2_with fail
  have c0 : ((w.alloc (.cells (plainC a b c p m) 25)).alloc (.cells (plainC a b c p m) 25)).cell? ⟨w.heap.size, 0, none⟩ = some (.int .u64 a) := ((plainAt_last _ _ _ rfl).alloc _).cell 0
  have c1 : ((w.alloc (.cells (plainC a b c p m) 25)).alloc (.cells (plainC a b c p m) 25)).cell? ⟨w.heap.size, 1, none⟩ = some (.int .u64 b) := ((plainAt_last _ _ _ rfl).alloc _).cell 1
  have c2 : ((w.alloc (.cells (plainC a b c p m) 25)).alloc (.cells (plainC a b c p m) 25)).cell? ⟨w.heap.size, 2, none⟩ = some (.int .u64 c) := ((plainAt_last _ _ _ rfl).alloc _).cell 2
  have c3 : ((w.alloc (.cells (plainC a b c p m) 25)).alloc (.cells (plainC a b c p m) 25)).cell? ⟨w.heap.size, 3, none⟩ = some (.string p) := ((plainAt_last _ _ _ rfl).alloc _).cell 3
  have c4 : ((w.alloc (.cells (plainC a b c p m) 25)).alloc (.cells (plainC a b c p m) 25)).cell? ⟨w.heap.size, 4, none⟩ = some (.string m) := ((plainAt_last _ _ _ rfl).alloc _).cell 4
  refine wp_region_held_drew (S := (fun w' => w'.cell? ⟨w.heap.size, 0, none⟩ = some (.int .u64 a) ∧ w'.cell? ⟨w.heap.size, 1, none⟩ = some (.int .u64 b) ∧ w'.cell? ⟨w.heap.size, 2, none⟩ = some (.int .u64 c) ∧ w'.cell? ⟨w.heap.size, 3, none⟩ = some (.string p) ∧ w'.cell? ⟨w.heap.size, 4, none⟩ = some (.string m))) (by kernel_rfl) ?_ (fun hHeld => ?_)
  · (refine ⟨?_, ?_, ?_, ?_, ?_⟩ <;> (repeat (first | assumption | (with_reducible refine keepD ?_) | (with_reducible refine keepN ?_) | (with_reducible refine keepV ?_))))
  refine wpAnyH_take (i := 0) (v := ?_) rfl (by kernel_rfl) (by kernel_rfl) (by kernel_rfl) (fun _ _ _ h => h) (Or.inl ⟨by rfl, ?_⟩) (by assumption) ?_
  rotate_left
  · (intro w hSw; (try dsimp only at hSw); go_split_ands; go_simp; (try with_reducible rfl))
  (try simp only [Act.put, List.getElem_toArray, List.getElem_cons_zero, List.getElem_cons_succ, List.setIfInBounds_toArray, List.set_cons_zero, List.set_cons_succ])
  refine wpAnyH_ready (rs := [1]) (by kernel_rfl) (by simp) ?_
  refine AllReadyH.cons rfl (fun K hK => ?_) AllReadyH.nil
  go_simp
  refine hK.out _ _ ?_ (fun hHeld => ?_)
  · (refine ⟨?_, ?_, ?_, ?_, ?_⟩ <;> (repeat (first | assumption | (with_reducible refine keepD ?_) | (with_reducible refine keepN ?_) | (with_reducible refine keepV ?_))))
  clear hK K
  (try simp only [Act.put, List.getElem_toArray, List.getElem_cons_zero, List.getElem_cons_succ, List.setIfInBounds_toArray, List.set_cons_zero, List.set_cons_succ])
  refine wpAnyH_ready (rs := [2]) (by kernel_rfl) (by simp) ?_
  refine AllReadyH.cons rfl (fun K hK => ?_) AllReadyH.nil
  go_simp
  (first | (go_at_call 15; refine (svGood_any _ 1 [(a, b, c, p, m)] (by simp) (by simp) (fun i => by rcases i with _ | i <;> first | exact ⟨hp, hm⟩ | exact ⟨Nat.zero_le _, Nat.zero_le _⟩) _ (by first | omega | (simp <;> omega)) (row1d _ _ (by simp) (a, b, c, p, m))).mono ?_; rintro e w' ⟨rfl, hb⟩; rw [HBG.out]; have c0 : w'.cell? ⟨w.heap.size, 0, none⟩ = some (.int .u64 a) := (by refine keepB hb (by first | omega | (simp <;> omega)) ?_; (repeat (first | assumption | (with_reducible refine keepD ?_) | (with_reducible refine keepN ?_) | (with_reducible refine keepV ?_)))); have c1 : w'.cell? ⟨w.heap.size, 1, none⟩ = some (.int .u64 b) := (by refine keepB hb (by first | omega | (simp <;> omega)) ?_; (repeat (first | assumption | (with_reducible refine keepD ?_) | (with_reducible refine keepN ?_) | (with_reducible refine keepV ?_)))); have c2 : w'.cell? ⟨w.heap.size, 2, none⟩ = some (.int .u64 c) := (by refine keepB hb (by first | omega | (simp <;> omega)) ?_; (repeat (first | assumption | (with_reducible refine keepD ?_) | (with_reducible refine keepN ?_) | (with_reducible refine keepV ?_)))); have c3 : w'.cell? ⟨w.heap.size, 3, none⟩ = some (.string p) := (by refine keepB hb (by first | omega | (simp <;> omega)) ?_; (repeat (first | assumption | (with_reducible refine keepD ?_) | (with_reducible refine keepN ?_) | (with_reducible refine keepV ?_)))); have c4 : w'.cell? ⟨w.heap.size, 4, none⟩ = some (.string m) := (by refine keepB hb (by first | omega | (simp <;> omega)) ?_; (repeat (first | assumption | (with_reducible refine keepD ?_) | (with_reducible refine keepN ?_) | (with_reducible refine keepV ?_)))); have bk : Below w.heap.size w w' := Below.trans (by repeat (first | (with_reducible assumption) | (with_reducible exact Below.refl _ _) | (with_reducible refine Below.drew ?_) | (with_reducible refine Below.alloc ?_ (by first | omega | (simp <;> omega)) _))) (hb.mono (by first | omega | (simp <;> omega))); have nk : w.heap.size + 1 ≤ w'.heap.size := (by have := hb.size; first | omega | (simp at this; omega))) | (go_at_call 52; refine (verIncMinor_any a b c p m a0 a1 b0 b1 _ (tabBelow ht (by repeat (first | (with_reducible assumption) | (with_reducible exact Below.refl _ _) | (with_reducible refine Below.drew ?_) | (with_reducible refine Below.alloc ?_ (by first | omega | (simp <;> omega)) _))))).mono ?_; rintro e w' ⟨rfl, hb⟩; have c0 : w'.cell? ⟨w.heap.size, 0, none⟩ = some (.int .u64 a) := (by refine keepB hb (by first | omega | (simp <;> omega)) ?_; (repeat (first | assumption | (with_reducible refine keepD ?_) | (with_reducible refine keepN ?_) | (with_reducible refine keepV ?_)))); have c1 : w'.cell? ⟨w.heap.size, 1, none⟩ = some (.int .u64 b) := (by refine keepB hb (by first | omega | (simp <;> omega)) ?_; (repeat (first | assumption | (with_reducible refine keepD ?_) | (with_reducible refine keepN ?_) | (with_reducible refine keepV ?_)))); have c2 : w'.cell? ⟨w.heap.size, 2, none⟩ = some (.int .u64 c) := (by refine keepB hb (by first | omega | (simp <;> omega)) ?_; (repeat (first | assumption | (with_reducible refine keepD ?_) | (with_reducible refine keepN ?_) | (with_reducible refine keepV ?_)))); have c3 : w'.cell? ⟨w.heap.size, 3, none⟩ = some (.string p) := (by refine keepB hb (by first | omega | (simp <;> omega)) ?_; (repeat (first | assumption | (with_reducible refine keepD ?_) | (with_reducible refine keepN ?_) | (with_reducible refine keepV ?_)))); have c4 : w'.cell? ⟨w.heap.size, 4, none⟩ = some (.string m) := (by refine keepB hb (by first | omega | (simp <;> omega)) ?_; (repeat (first | assumption | (with_reducible refine keepD ?_) | (with_reducible refine keepN ?_) | (with_reducible refine keepV ?_)))); have bk : Below w.heap.size w w' := Below.trans (by repeat (first | (with_reducible assumption) | (with_reducible exact Below.refl _ _) | (with_reducible refine Below.drew ?_) | (with_reducible refine Below.alloc ?_ (by first | omega | (simp <;> omega)) _))) (hb.mono (by first | omega | (simp <;> omega))); have nk : w.heap.size + 1 ≤ w'.heap.size := (by have := hb.size; first | omega | (simp at this; omega))) | (go_at_call 53; refine (spIncMinor_any a b c p m b0 b1 _).mono ?_; rintro e w' ⟨rfl, hb⟩; have c0 : w'.cell? ⟨w.heap.size, 0, none⟩ = some (.int .u64 a) := (by refine keepB hb (by first | omega | (simp <;> omega)) ?_; (repeat (first | assumption | (with_reducible refine keepD ?_) | (with_reducible refine keepN ?_) | (with_reducible refine keepV ?_)))); have c1 : w'.cell? ⟨w.heap.size, 1, none⟩ = some (.int .u64 b) := (by refine keepB hb (by first | omega | (simp <;> omega)) ?_; (repeat (first | assumption | (with_reducible refine keepD ?_) | (with_reducible refine keepN ?_) | (with_reducible refine keepV ?_)))); have c2 : w'.cell? ⟨w.heap.size, 2, none⟩ = some (.int .u64 c) := (by refine keepB hb (by first | omega | (simp <;> omega)) ?_; (repeat (first | assumption | (with_reducible refine keepD ?_) | (with_reducible refine keepN ?_) | (with_reducible refine keepV ?_)))); have c3 : w'.cell? ⟨w.heap.size, 3, none⟩ = some (.string p) := (by refine keepB hb (by first | omega | (simp <;> omega)) ?_; (repeat (first | assumption | (with_reducible refine keepD ?_) | (with_reducible refine keepN ?_) | (with_reducible refine keepV ?_)))); have c4 : w'.cell? ⟨w.heap.size, 4, none⟩ = some (.string m) := (by refine keepB hb (by first | omega | (simp <;> omega)) ?_; (repeat (first | assumption | (with_reducible refine keepD ?_) | (with_reducible refine keepN ?_) | (with_reducible refine keepV ?_)))); have bk : Below w.heap.size w w' := Below.trans (by repeat (first | (with_reducible assumption) | (with_reducible exact Below.refl _ _) | (with_reducible refine Below.drew ?_) | (with_reducible refine Below.alloc ?_ (by first | omega | (simp <;> omega)) _))) (hb.mono (by first | omega | (simp <;> omega))); have nk : w.heap.size + 1 ≤ w'.heap.size := (by have := hb.size; first | omega | (simp at this; omega))))
  refine hK.out _ _ ?_ (fun hHeld => ?_)
  · (refine ⟨?_, ?_, ?_, ?_, ?_⟩ <;> (repeat (first | assumption | (with_reducible refine keepD ?_) | (with_reducible refine keepN ?_) | (with_reducible refine keepV ?_))))
  clear hK K
  (try simp only [Act.put, List.getElem_toArray, List.getElem_cons_zero, List.getElem_cons_succ, List.setIfInBounds_toArray, List.set_cons_zero, List.set_cons_succ])
  refine wpAnyH_take (i := 3) (v := ?_) rfl (by kernel_rfl) (by kernel_rfl) (by kernel_rfl) (fun _ _ _ h => h) (Or.inl ⟨by rfl, ?_⟩) (by assumption) ?_
  rotate_left
  · (intro w hSw; (try dsimp only at hSw); go_split_ands; go_simp; (try with_reducible rfl))
  (try simp only [Act.put, List.getElem_toArray, List.getElem_cons_zero, List.getElem_cons_succ, List.setIfInBounds_toArray, List.set_cons_zero, List.set_cons_succ])
  refine wpAnyH_take (i := 4) (v := ?_) rfl (by kernel_rfl) (by kernel_rfl) (by kernel_rfl) (fun _ _ _ h => h) (Or.inl ⟨by rfl, ?_⟩) (by assumption) ?_
  rotate_left
  · (intro w hSw; (try dsimp only at hSw); go_split_ands; go_simp; (try with_reducible rfl))
  (try simp only [Act.put, List.getElem_toArray, List.getElem_cons_zero, List.getElem_cons_succ, List.setIfInBounds_toArray, List.set_cons_zero, List.set_cons_succ])
  refine wpAnyH_take (i := 5) (v := ?_) rfl (by kernel_rfl) (by kernel_rfl) (by kernel_rfl) (fun _ _ _ h => h) (Or.inl ⟨by rfl, ?_⟩) (by assumption) ?_
  rotate_left
  · (intro w hSw; (try dsimp only at hSw); go_split_ands; go_simp; (try with_reducible rfl))
  (try simp only [Act.put, List.getElem_toArray, List.getElem_cons_zero, List.getElem_cons_succ, List.setIfInBounds_toArray, List.set_cons_zero, List.set_cons_succ])
  refine wpAnyH_take (i := 6) (v := ?_) rfl (by kernel_rfl) (by kernel_rfl) (by kernel_rfl) (fun _ _ _ h => h) (Or.inl ⟨by rfl, ?_⟩) (by assumption) ?_
  rotate_left
  · (intro w hSw; (try dsimp only at hSw); go_split_ands; go_simp; (try with_reducible rfl))
  (try simp only [Act.put, List.getElem_toArray, List.getElem_cons_zero, List.getElem_cons_succ, List.setIfInBounds_toArray, List.set_cons_zero, List.set_cons_succ])
  refine wpAnyH_take (i := 7) (v := ?_) rfl (by kernel_rfl) (by kernel_rfl) (by kernel_rfl) (fun _ _ _ h => h) (Or.inl ⟨by rfl, ?_⟩) (by assumption) ?_
  rotate_left
  · (intro w hSw; (try dsimp only at hSw); go_split_ands; go_simp; (try with_reducible rfl))
  (try simp only [Act.put, List.getElem_toArray, List.getElem_cons_zero, List.getElem_cons_succ, List.setIfInBounds_toArray, List.set_cons_zero, List.set_cons_succ])
  refine wpAnyH_take (i := 8) (v := ?_) rfl (by kernel_rfl) (by kernel_rfl) (by kernel_rfl) (fun _ _ _ h => h) (Or.inl ⟨by rfl, ?_⟩) (by assumption) ?_
  rotate_left
  · (intro w hSw; (try dsimp only at hSw); go_split_ands; go_simp; (try with_reducible rfl))
  (try simp only [Act.put, List.getElem_toArray, List.getElem_cons_zero, List.getElem_cons_succ, List.setIfInBounds_toArray, List.set_cons_zero, List.set_cons_succ])
  refine wpAnyH_take (i := 9) (v := ?_) rfl (by kernel_rfl) (by kernel_rfl) (by kernel_rfl) (fun _ _ _ h => h) (Or.inl ⟨by rfl, ?_⟩) (by assumption) ?_
  rotate_left
  · (intro w hSw; (try dsimp only at hSw); go_split_ands; go_simp; (try with_reducible rfl))
  (try simp only [Act.put, List.getElem_toArray, List.getElem_cons_zero, List.getElem_cons_succ, List.setIfInBounds_toArray, List.set_cons_zero, List.set_cons_succ])
  refine wpAnyH_take (i := 10) (v := ?_) rfl (by kernel_rfl) (by kernel_rfl) (by kernel_rfl) (fun _ _ _ h => h) (Or.inl ⟨by rfl, ?_⟩) (by assumption) ?_
  rotate_left
  · (intro w hSw; (try dsimp only at hSw); go_split_ands; go_simp; (try with_reducible rfl))
  (try simp only [Act.put, List.getElem_toArray, List.getElem_cons_zero, List.getElem_cons_succ, List.setIfInBounds_toArray, List.set_cons_zero, List.set_cons_succ])
  refine wpAnyH_take (i := 11) (v := undef) rfl (by kernel_rfl) (by kernel_rfl) (by kernel_rfl) (fun _ _ _ h => h) (Or.inr ⟨by rfl, rfl⟩) (by assumption) ?_
  (try simp only [Act.put, List.getElem_toArray, List.getElem_cons_zero, List.getElem_cons_succ, List.setIfInBounds_toArray, List.set_cons_zero, List.set_cons_succ])
  refine wpAnyH_take (i := 12) (v := undef) rfl (by kernel_rfl) (by kernel_rfl) (by kernel_rfl) (fun _ _ _ h => h) (Or.inr ⟨by rfl, rfl⟩) (by assumption) ?_
  (try simp only [Act.put, List.getElem_toArray, List.getElem_cons_zero, List.getElem_cons_succ, List.setIfInBounds_toArray, List.set_cons_zero, List.set_cons_succ])
  refine wpAnyH_take (i := 13) (v := undef) rfl (by kernel_rfl) (by kernel_rfl) (by kernel_rfl) (fun _ _ _ h => h) (Or.inr ⟨by rfl, rfl⟩) (by assumption) ?_
  (try simp only [Act.put, List.getElem_toArray, List.getElem_cons_zero, List.getElem_cons_succ, List.setIfInBounds_toArray, List.set_cons_zero, List.set_cons_succ])
  refine wpAnyH_take (i := 14) (v := undef) rfl (by kernel_rfl) (by kernel_rfl) (by kernel_rfl) (fun _ _ _ h => h) (Or.inr ⟨by rfl, rfl⟩) (by assumption) ?_
  (try simp only [Act.put, List.getElem_toArray, List.getElem_cons_zero, List.getElem_cons_succ, List.setIfInBounds_toArray, List.set_cons_zero, List.set_cons_succ])
  refine wpAnyH_take (i := 15) (v := undef) rfl (by kernel_rfl) (by kernel_rfl) (by kernel_rfl) (fun _ _ _ h => h) (Or.inr ⟨by rfl, rfl⟩) (by assumption) ?_
  (try simp only [Act.put, List.getElem_toArray, List.getElem_cons_zero, List.getElem_cons_succ, List.setIfInBounds_toArray, List.set_cons_zero, List.set_cons_succ])
  refine wpAnyH_take (i := 16) (v := ?_) rfl (by kernel_rfl) (by kernel_rfl) (by kernel_rfl) (fun _ _ _ h => h) (Or.inl ⟨by rfl, ?_⟩) (by assumption) ?_
  rotate_left
  · (intro w hSw; (try dsimp only at hSw); go_split_ands; go_simp; (try with_reducible rfl))
  (try simp only [Act.put, List.getElem_toArray, List.getElem_cons_zero, List.getElem_cons_succ, List.setIfInBounds_toArray, List.set_cons_zero, List.set_cons_succ])
  refine wpAnyH_take (i := 17) (v := ?_) rfl (by kernel_rfl) (by kernel_rfl) (by kernel_rfl) (fun _ _ _ h => h) (Or.inl ⟨by rfl, ?_⟩) (by assumption) ?_
  rotate_left
  · (intro w hSw; (try dsimp only at hSw); go_split_ands; go_simp; (try with_reducible rfl))
  (try simp only [Act.put, List.getElem_toArray, List.getElem_cons_zero, List.getElem_cons_succ, List.setIfInBounds_toArray, List.set_cons_zero, List.set_cons_succ])
  refine wpAnyH_done (by kernel_rfl) ?_ _
  go_wp2_with fail
  go_ret
  exact ⟨rfl, bk⟩

set_option maxRecDepth 100000 in
set_option maxHeartbeats 4000000 in
theorem incMinor_go (a b c : Int) (p m : ByteArray) (hp : p.size ≤ 2147483647) (hm : m.size ≤ 2147483647) (w : World) (ht : Hid (Tab10 w)) (HBG : Hid (goodAll [(a, b, c, p, m)] = true)) (a0 : 0 ≤ a) (a1 : a < 18446744073709551616) (b0 : 0 ≤ b) (b1 : b < 18446744073709551615) :
    Calls Tryd.prog 14 #[.agg (plainC a b c p m)] w (BoolPost true w) := by
  go_enter Tryd.func14, Tryd.ntmps14
  go_wp2_with fail
  refine (fits14_any a b c p m true (by simp; omega) _).mono ?_
  rintro e w1 ⟨rfl, rfl⟩
  go_wp2_with fail
  have hw1 : IntKind.u64.wrap (b + 1) = b + 1 := by rw [IntKind.wrap_u64]; omega
  have hz : (b + 1 == 0) = false := by simp; omega
  have c0 : ((w.alloc (.cells (plainC a b c p m) 25)).alloc (.cells (plainC a b c p m) 25)).cell? ⟨w.heap.size, 0, none⟩ = some (.int .u64 a) := ((plainAt_last _ _ _ rfl).alloc _).cell 0
  have c1 : ((w.alloc (.cells (plainC a b c p m) 25)).alloc (.cells (plainC a b c p m) 25)).cell? ⟨w.heap.size, 1, none⟩ = some (.int .u64 b) := ((plainAt_last _ _ _ rfl).alloc _).cell 1
  have c2 : ((w.alloc (.cells (plainC a b c p m) 25)).alloc (.cells (plainC a b c p m) 25)).cell? ⟨w.heap.size, 2, none⟩ = some (.int .u64 c) := ((plainAt_last _ _ _ rfl).alloc _).cell 2
  have c3 : ((w.alloc (.cells (plainC a b c p m) 25)).alloc (.cells (plainC a b c p m) 25)).cell? ⟨w.heap.size, 3, none⟩ = some (.string p) := ((plainAt_last _ _ _ rfl).alloc _).cell 3
  have c4 : ((w.alloc (.cells (plainC a b c p m) 25)).alloc (.cells (plainC a b c p m) 25)).cell? ⟨w.heap.size, 4, none⟩ = some (.string m) := ((plainAt_last _ _ _ rfl).alloc _).cell 4
  go_region_held3 (fun w' => w'.cell? ⟨w.heap.size, 0, none⟩ = some (.int .u64 a) ∧ w'.cell? ⟨w.heap.size, 1, none⟩ = some (.int .u64 b) ∧ w'.cell? ⟨w.heap.size, 2, none⟩ = some (.int .u64 c) ∧ w'.cell? ⟨w.heap.size, 3, none⟩ = some (.string p) ∧ w'.cell? ⟨w.heap.size, 4, none⟩ = some (.string m)) (first | (refine ⟨?_, ?_, ?_, ?_, ?_⟩ <;> (repeat (first | assumption | (with_reducible refine keepD ?_) | (with_reducible refine keepN ?_) | (with_reducible refine keepV ?_)))) | go_keep)
    (first | (go_at_call 15; refine (svGood_any _ 1 [(a, b, c, p, m)] (by simp) (by simp) (fun i => by rcases i with _ | i <;> first | exact ⟨hp, hm⟩ | exact ⟨Nat.zero_le _, Nat.zero_le _⟩) _ (by first | omega | (simp <;> omega)) (row1d _ _ (by simp) (a, b, c, p, m))).mono ?_; rintro e w' ⟨rfl, hb⟩; rw [HBG.out]; have c0 : w'.cell? ⟨w.heap.size, 0, none⟩ = some (.int .u64 a) := (by refine keepB hb (by first | omega | (simp <;> omega)) ?_; (repeat (first | assumption | (with_reducible refine keepD ?_) | (with_reducible refine keepN ?_) | (with_reducible refine keepV ?_)))); have c1 : w'.cell? ⟨w.heap.size, 1, none⟩ = some (.int .u64 b) := (by refine keepB hb (by first | omega | (simp <;> omega)) ?_; (repeat (first | assumption | (with_reducible refine keepD ?_) | (with_reducible refine keepN ?_) | (with_reducible refine keepV ?_)))); have c2 : w'.cell? ⟨w.heap.size, 2, none⟩ = some (.int .u64 c) := (by refine keepB hb (by first | omega | (simp <;> omega)) ?_; (repeat (first | assumption | (with_reducible refine keepD ?_) | (with_reducible refine keepN ?_) | (with_reducible refine keepV ?_)))); have c3 : w'.cell? ⟨w.heap.size, 3, none⟩ = some (.string p) := (by refine keepB hb (by first | omega | (simp <;> omega)) ?_; (repeat (first | assumption | (with_reducible refine keepD ?_) | (with_reducible refine keepN ?_) | (with_reducible refine keepV ?_)))); have c4 : w'.cell? ⟨w.heap.size, 4, none⟩ = some (.string m) := (by refine keepB hb (by first | omega | (simp <;> omega)) ?_; (repeat (first | assumption | (with_reducible refine keepD ?_) | (with_reducible refine keepN ?_) | (with_reducible refine keepV ?_)))); have bk : Below w.heap.size w w' := Below.trans (by repeat (first | (with_reducible assumption) | (with_reducible exact Below.refl _ _) | (with_reducible refine Below.drew ?_) | (with_reducible refine Below.alloc ?_ (by first | omega | (simp <;> omega)) _))) (hb.mono (by first | omega | (simp <;> omega))); have nk : w.heap.size + 1 ≤ w'.heap.size := (by have := hb.size; first | omega | (simp at this; omega))) | (go_at_call 52; refine (verIncMinor_any a b c p m a0 a1 b0 b1 _ (tabBelow ht (by repeat (first | (with_reducible assumption) | (with_reducible exact Below.refl _ _) | (with_reducible refine Below.drew ?_) | (with_reducible refine Below.alloc ?_ (by first | omega | (simp <;> omega)) _))))).mono ?_; rintro e w' ⟨rfl, hb⟩; have c0 : w'.cell? ⟨w.heap.size, 0, none⟩ = some (.int .u64 a) := (by refine keepB hb (by first | omega | (simp <;> omega)) ?_; (repeat (first | assumption | (with_reducible refine keepD ?_) | (with_reducible refine keepN ?_) | (with_reducible refine keepV ?_)))); have c1 : w'.cell? ⟨w.heap.size, 1, none⟩ = some (.int .u64 b) := (by refine keepB hb (by first | omega | (simp <;> omega)) ?_; (repeat (first | assumption | (with_reducible refine keepD ?_) | (with_reducible refine keepN ?_) | (with_reducible refine keepV ?_)))); have c2 : w'.cell? ⟨w.heap.size, 2, none⟩ = some (.int .u64 c) := (by refine keepB hb (by first | omega | (simp <;> omega)) ?_; (repeat (first | assumption | (with_reducible refine keepD ?_) | (with_reducible refine keepN ?_) | (with_reducible refine keepV ?_)))); have c3 : w'.cell? ⟨w.heap.size, 3, none⟩ = some (.string p) := (by refine keepB hb (by first | omega | (simp <;> omega)) ?_; (repeat (first | assumption | (with_reducible refine keepD ?_) | (with_reducible refine keepN ?_) | (with_reducible refine keepV ?_)))); have c4 : w'.cell? ⟨w.heap.size, 4, none⟩ = some (.string m) := (by refine keepB hb (by first | omega | (simp <;> omega)) ?_; (repeat (first | assumption | (with_reducible refine keepD ?_) | (with_reducible refine keepN ?_) | (with_reducible refine keepV ?_)))); have bk : Below w.heap.size w w' := Below.trans (by repeat (first | (with_reducible assumption) | (with_reducible exact Below.refl _ _) | (with_reducible refine Below.drew ?_) | (with_reducible refine Below.alloc ?_ (by first | omega | (simp <;> omega)) _))) (hb.mono (by first | omega | (simp <;> omega))); have nk : w.heap.size + 1 ≤ w'.heap.size := (by have := hb.size; first | omega | (simp at this; omega))) | (go_at_call 53; refine (spIncMinor_any a b c p m b0 b1 _).mono ?_; rintro e w' ⟨rfl, hb⟩; have c0 : w'.cell? ⟨w.heap.size, 0, none⟩ = some (.int .u64 a) := (by refine keepB hb (by first | omega | (simp <;> omega)) ?_; (repeat (first | assumption | (with_reducible refine keepD ?_) | (with_reducible refine keepN ?_) | (with_reducible refine keepV ?_)))); have c1 : w'.cell? ⟨w.heap.size, 1, none⟩ = some (.int .u64 b) := (by refine keepB hb (by first | omega | (simp <;> omega)) ?_; (repeat (first | assumption | (with_reducible refine keepD ?_) | (with_reducible refine keepN ?_) | (with_reducible refine keepV ?_)))); have c2 : w'.cell? ⟨w.heap.size, 2, none⟩ = some (.int .u64 c) := (by refine keepB hb (by first | omega | (simp <;> omega)) ?_; (repeat (first | assumption | (with_reducible refine keepD ?_) | (with_reducible refine keepN ?_) | (with_reducible refine keepV ?_)))); have c3 : w'.cell? ⟨w.heap.size, 3, none⟩ = some (.string p) := (by refine keepB hb (by first | omega | (simp <;> omega)) ?_; (repeat (first | assumption | (with_reducible refine keepD ?_) | (with_reducible refine keepN ?_) | (with_reducible refine keepV ?_)))); have c4 : w'.cell? ⟨w.heap.size, 4, none⟩ = some (.string m) := (by refine keepB hb (by first | omega | (simp <;> omega)) ?_; (repeat (first | assumption | (with_reducible refine keepD ?_) | (with_reducible refine keepN ?_) | (with_reducible refine keepV ?_)))); have bk : Below w.heap.size w w' := Below.trans (by repeat (first | (with_reducible assumption) | (with_reducible exact Below.refl _ _) | (with_reducible refine Below.drew ?_) | (with_reducible refine Below.alloc ?_ (by first | omega | (simp <;> omega)) _))) (hb.mono (by first | omega | (simp <;> omega))); have nk : w.heap.size + 1 ≤ w'.heap.size := (by have := hb.size; first | omega | (simp at this; omega))))
  go_wp2_with fail
  go_ret
  exact ⟨rfl, bk⟩

set_option maxRecDepth 100000 in
set_option maxHeartbeats 4000000 in
theorem incMinor_fa (a b c : Int) (p m : ByteArray) (h : (decide (p.size ≤ 2147483647) && decide (m.size ≤ 2147483647)) = false) (w : World) :
    Calls Tryd.prog 14 #[.agg (plainC a b c p m)] w (BoolPost true w) := by
  have H := Lib.hid h
  clear h
  go_enter Tryd.func14, Tryd.ntmps14
  go_wp2_with fail
  refine (fits14_any a b c p m false H.out _).mono ?_
  rintro e w1 ⟨rfl, rfl⟩
  go_wp2_with fail
  go_ret
  exact ⟨rfl, (by repeat (first | assumption | exact Below.refl _ _ | refine below_drewN ?_ _ | refine Below.drew ?_ | refine Below.alloc ?_ (by first | omega | (simp <;> omega)) _))⟩

theorem wf64 {a : Int} (h : (Lit.int .u64 a).wf = true) : 0 ≤ a ∧ a < 18446744073709551616 := by
  have h2 : (decide (IntKind.u64.min ≤ a) && decide (a ≤ IntKind.u64.max)) = true := h
  have e1 : IntKind.u64.min = 0 := by decide
  have e2 : IntKind.u64.max = 18446744073709551615 := by decide
  rw [e1, e2] at h2
  simp only [Bool.and_eq_true, decide_eq_true_eq] at h2
  omega

theorem incMinor_law (a b c : Int) (p m : ByteArray) (_w0 : (Lit.int .u64 a).wf = true) (_w1 : (Lit.int .u64 b).wf = true) (_w2 : (Lit.int .u64 c).wf = true) (_w3 : p.size ≤ maxLen) (_w4 : m.size ≤ maxLen) (w : World) (ht : Hid (Tab10 w)) :
    Calls Tryd.prog 14 #[.agg #[.int .u64 a, .int .u64 b, .int .u64 c, .string p, .string m]] w fun e w' => e = .returned (.bool true) ∧ Below w.heap.size w w' := by
  have ha := wf64 _w0
  have hb := wf64 _w1
  cases h1 : (decide (p.size ≤ 2147483647) && decide (m.size ≤ 2147483647)) with
  | false => exact incMinor_fa a b c p m h1 w
  | true =>
    simp only [Bool.and_eq_true, decide_eq_true_eq] at h1
    cases h2 : goodAll [(a, b, c, p, m)] with
    | false => exact incMinor_bad a b c p m h1.1 h1.2 w ht (Lib.hid h2)
    | true =>
      by_cases h3 : b = 18446744073709551615
      · exact incMinor_top a b c p m h1.1 h1.2 w ht (Lib.hid h2) (by rw [IntKind.wrap_u64, h3]; rfl)
      · exact incMinor_go a b c p m h1.1 h1.2 w ht (Lib.hid h2) ha.1 ha.2 hb.1 (by omega)
end Go.Proofs.YtdlpcfhhpjjjmaaDoor
