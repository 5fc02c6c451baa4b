/- laws.snWant at a tilde; spec.Compares at a tilde as one. -/
import Derived.Test.YtdlpcfhhpjjjmaaDoorSpTildeA
import Derived.Test.YtdlpcfhhpjjjmaaDoorSpTildeB
import Derived.Test.YtdlpcfhhpjjjmaaDoorAsk
import Derived.Test.YtdlpcfhhpjjjmaaDoorTildeAny
import Derived.Test.YtdlpcfhhpjjjmaaDoorPTilde
namespace Go.Proofs.YtdlpcfhhpjjjmaaDoor
open Go.RowKit
set_option linter.unusedVariables false
set_option linter.unusedSimpArgs false

theorem spTilde_any (g a b c x y z : Int) (hg : 0 ≤ g ∧ g ≤ 3) (p q n : ByteArray) (hp : p.size ≤ 2147483653) (hq : q.size ≤ 2147483653) (w : World) :
    Calls Tryd.prog 70 #[.agg (termC 6 g a b c p), .agg (plainC x y z q n)] w (BoolPost (decide (0 ≤ specCmp x y z q a b c p) && (numI (min 2 g) x y z a b c == 0)) w) := by
  have h3 : g = 0 ∨ g = 1 ∨ g = 2 ∨ g = 3 := by omega
  by_cases h : 0 ≤ specCmp x y z q a b c p
  · rw [decide_eq_true h]
    rcases h3 with rfl | rfl | rfl | rfl
    · exact spTilde_hi0 a b c x y z p q n hp hq w _ rfl h
    · exact spTilde_hi1 a b c x y z p q n hp hq w _ rfl h
    · exact spTilde_hi2 a b c x y z p q n hp hq w _ rfl h
    · exact spTilde_hi3 a b c x y z p q n hp hq w _ rfl h
  · rw [decide_eq_false h]
    rcases h3 with rfl | rfl | rfl | rfl
    · exact spTilde_lo0 a b c x y z p q n hp hq w _ rfl (by omega)
    · exact spTilde_lo1 a b c x y z p q n hp hq w _ rfl (by omega)
    · exact spTilde_lo2 a b c x y z p q n hp hq w _ rfl (by omega)
    · exact spTilde_lo3 a b c x y z p q n hp hq w _ rfl (by omega)

set_option maxRecDepth 100000 in
set_option maxHeartbeats 4000000 in
theorem snWant_p (o g a b c x y z : Int) (hg : 0 ≤ g ∧ g ≤ 3) (p q n : ByteArray) (hp : p.size ≤ 2147483653) (hq : q.size ≤ 2147483653) (w : World) (C : Bool) (HC : Hid ((decide (0 ≤ specCmp x y z q a b c p) && (numI (min 2 g) x y z a b c == 0)) = C))  :
    Calls Tryd.prog 28 #[.agg (termC o g a b c p), .int .i64 6, .agg (plainC x y z q n), .bool true] w (BoolPost C w) := by
  go_enter Tryd.func28, Tryd.ntmps28
  go_wp2_with fail
  refine wp_named ?_
  intro W0 hW0
  have t0 : W0.cell? ⟨w.heap.size, 0, none⟩ = some (.int .i64 o) := by rw [← hW0]; exact keepV (TermAt w _ _ rfl 0)
  have t1 : W0.cell? ⟨w.heap.size, 1, none⟩ = some (.int .i64 g) := by rw [← hW0]; exact keepV (TermAt w _ _ rfl 1)
  have t2 : W0.cell? ⟨w.heap.size, 2, none⟩ = some (.int .u64 a) := by rw [← hW0]; exact keepV (TermAt w _ _ rfl 2)
  have t3 : W0.cell? ⟨w.heap.size, 3, none⟩ = some (.int .u64 b) := by rw [← hW0]; exact keepV (TermAt w _ _ rfl 3)
  have t4 : W0.cell? ⟨w.heap.size, 4, none⟩ = some (.int .u64 c) := by rw [← hW0]; exact keepV (TermAt w _ _ rfl 4)
  have t5 : W0.cell? ⟨w.heap.size, 5, none⟩ = some (.string p) := by rw [← hW0]; exact keepV (TermAt w _ _ rfl 5)
  have v0 : W0.cell? ⟨w.heap.size + 1, 0, none⟩ = some (.int .u64 x) := by rw [← hW0]; exact (plainAt_last _ _ _ (by simp)).cell 0
  have v1 : W0.cell? ⟨w.heap.size + 1, 1, none⟩ = some (.int .u64 y) := by rw [← hW0]; exact (plainAt_last _ _ _ (by simp)).cell 1
  have v2 : W0.cell? ⟨w.heap.size + 1, 2, none⟩ = some (.int .u64 z) := by rw [← hW0]; exact (plainAt_last _ _ _ (by simp)).cell 2
  have v3 : W0.cell? ⟨w.heap.size + 1, 3, none⟩ = some (.string q) := by rw [← hW0]; exact (plainAt_last _ _ _ (by simp)).cell 3
  have v4 : W0.cell? ⟨w.heap.size + 1, 4, none⟩ = some (.string n) := by rw [← hW0]; exact (plainAt_last _ _ _ (by simp)).cell 4
  have bk : Below w.heap.size w W0 := by rw [← hW0]; exact (by repeat (first | (with_reducible assumption) | (with_reducible exact Below.refl _ _) | (with_reducible refine below_drewN ?_ _) | (with_reducible refine Below.drew ?_) | (with_reducible refine Below.alloc ?_ (by first | omega | (simp <;> omega)) _)))
  have nk : w.heap.size + 2 ≤ W0.heap.size := by rw [← hW0]; simp <;> omega
  clear hW0
  refine wp_region_held_drew (S := (fun w' => w'.cell? ⟨w.heap.size, 0, none⟩ = some (.int .i64 o) ∧ w'.cell? ⟨w.heap.size, 1, none⟩ = some (.int .i64 g) ∧ w'.cell? ⟨w.heap.size, 2, none⟩ = some (.int .u64 a) ∧ w'.cell? ⟨w.heap.size, 3, none⟩ = some (.int .u64 b) ∧ w'.cell? ⟨w.heap.size, 4, none⟩ = some (.int .u64 c) ∧ w'.cell? ⟨w.heap.size, 5, none⟩ = some (.string p) ∧ w'.cell? ⟨w.heap.size + 1, 0, none⟩ = some (.int .u64 x) ∧ w'.cell? ⟨w.heap.size + 1, 1, none⟩ = some (.int .u64 y) ∧ w'.cell? ⟨w.heap.size + 1, 2, none⟩ = some (.int .u64 z) ∧ w'.cell? ⟨w.heap.size + 1, 3, none⟩ = some (.string q) ∧ w'.cell? ⟨w.heap.size + 1, 4, none⟩ = some (.string n))) (by kernel_rfl) ?_ (fun hHeld => ?_)
  · (refine ⟨?_, ?_, ?_, ?_, ?_, ?_, ?_, ?_, ?_, ?_, ?_⟩ <;> (repeat (first | assumption | (with_reducible refine keepD ?_) | (with_reducible refine keepN ?_) | (with_reducible refine keepV ?_))))
  refine wpAnyH_take (i := 0) (v := ?_) rfl (by kernel_rfl) (by kernel_rfl) (by kernel_rfl) (fun _ _ _ h => h) (Or.inl ⟨by rfl, ?_⟩) (by assumption) ?_
  rotate_left
  · (intro w hSw; (try dsimp only at hSw); go_split_ands; go_simp; (try with_reducible rfl))
  (try simp only [Act.put, List.getElem_toArray, List.getElem_cons_zero, List.getElem_cons_succ, List.setIfInBounds_toArray, List.set_cons_zero, List.set_cons_succ])
  refine wpAnyH_take (i := 1) (v := ?_) rfl (by kernel_rfl) (by kernel_rfl) (by kernel_rfl) (fun _ _ _ h => h) (Or.inl ⟨by rfl, ?_⟩) (by assumption) ?_
  rotate_left
  · (intro w hSw; (try dsimp only at hSw); go_split_ands; go_simp; (try with_reducible rfl))
  (try simp only [Act.put, List.getElem_toArray, List.getElem_cons_zero, List.getElem_cons_succ, List.setIfInBounds_toArray, List.set_cons_zero, List.set_cons_succ])
  refine wpAnyH_take (i := 2) (v := undef) rfl (by kernel_rfl) (by kernel_rfl) (by kernel_rfl) (fun _ _ _ h => h) (Or.inr ⟨by rfl, rfl⟩) (by assumption) ?_
  (try simp only [Act.put, List.getElem_toArray, List.getElem_cons_zero, List.getElem_cons_succ, List.setIfInBounds_toArray, List.set_cons_zero, List.set_cons_succ])
  refine wpAnyH_take (i := 3) (v := undef) rfl (by kernel_rfl) (by kernel_rfl) (by kernel_rfl) (fun _ _ _ h => h) (Or.inr ⟨by rfl, rfl⟩) (by assumption) ?_
  (try simp only [Act.put, List.getElem_toArray, List.getElem_cons_zero, List.getElem_cons_succ, List.setIfInBounds_toArray, List.set_cons_zero, List.set_cons_succ])
  refine wpAnyH_take (i := 4) (v := undef) rfl (by kernel_rfl) (by kernel_rfl) (by kernel_rfl) (fun _ _ _ h => h) (Or.inr ⟨by rfl, rfl⟩) (by assumption) ?_
  (try simp only [Act.put, List.getElem_toArray, List.getElem_cons_zero, List.getElem_cons_succ, List.setIfInBounds_toArray, List.set_cons_zero, List.set_cons_succ])
  refine wpAnyH_take (i := 5) (v := ?_) rfl (by kernel_rfl) (by kernel_rfl) (by kernel_rfl) (fun _ _ _ h => h) (Or.inl ⟨by rfl, ?_⟩) (by assumption) ?_
  rotate_left
  · (intro w hSw; (try dsimp only at hSw); go_split_ands; go_simp; (try with_reducible rfl))
  (try simp only [Act.put, List.getElem_toArray, List.getElem_cons_zero, List.getElem_cons_succ, List.setIfInBounds_toArray, List.set_cons_zero, List.set_cons_succ])
  refine wpAnyH_take (i := 6) (v := ?_) rfl (by kernel_rfl) (by kernel_rfl) (by kernel_rfl) (fun _ _ _ h => h) (Or.inl ⟨by rfl, ?_⟩) (by assumption) ?_
  rotate_left
  · (intro w hSw; (try dsimp only at hSw); go_split_ands; go_simp; (try with_reducible rfl))
  (try simp only [Act.put, List.getElem_toArray, List.getElem_cons_zero, List.getElem_cons_succ, List.setIfInBounds_toArray, List.set_cons_zero, List.set_cons_succ])
  refine wpAnyH_take (i := 7) (v := ?_) rfl (by kernel_rfl) (by kernel_rfl) (by kernel_rfl) (fun _ _ _ h => h) (Or.inl ⟨by rfl, ?_⟩) (by assumption) ?_
  rotate_left
  · (intro w hSw; (try dsimp only at hSw); go_split_ands; go_simp; (try with_reducible rfl))
  (try simp only [Act.put, List.getElem_toArray, List.getElem_cons_zero, List.getElem_cons_succ, List.setIfInBounds_toArray, List.set_cons_zero, List.set_cons_succ])
  refine wpAnyH_take (i := 8) (v := ?_) rfl (by kernel_rfl) (by kernel_rfl) (by kernel_rfl) (fun _ _ _ h => h) (Or.inl ⟨by rfl, ?_⟩) (by assumption) ?_
  rotate_left
  · (intro w hSw; (try dsimp only at hSw); go_split_ands; go_simp; (try with_reducible rfl))
  (try simp only [Act.put, List.getElem_toArray, List.getElem_cons_zero, List.getElem_cons_succ, List.setIfInBounds_toArray, List.set_cons_zero, List.set_cons_succ])
  refine wpAnyH_take (i := 10) (v := ?_) rfl (by kernel_rfl) (by kernel_rfl) (by kernel_rfl) (fun _ _ _ h => h) (Or.inl ⟨by rfl, ?_⟩) (by assumption) ?_
  rotate_left
  · (intro w hSw; (try dsimp only at hSw); go_split_ands; go_simp; (try with_reducible rfl))
  (try simp only [Act.put, List.getElem_toArray, List.getElem_cons_zero, List.getElem_cons_succ, List.setIfInBounds_toArray, List.set_cons_zero, List.set_cons_succ])
  refine wpAnyH_ready (rs := [9]) (by kernel_rfl) (by simp) ?_
  refine AllReadyH.cons rfl (fun K hK => ?_) AllReadyH.nil
  go_simp
  (first | (go_at_call 66; refine (snAs_any _ _ _ _ _ _ _ _).mono ?_; rintro e w' ⟨rfl, rfl⟩) | (go_at_call 70; refine (spTilde_any g a b c x y z hg p q n hp hq _).mono ?_; rintro e w' ⟨rfl, hb⟩; rw [HC.out]; have t0 : w'.cell? ⟨w.heap.size, 0, none⟩ = some (.int .i64 o) := (by refine keepB hb (by first | omega | (simp <;> omega)) ?_; (repeat (first | assumption | (with_reducible refine keepD ?_) | (with_reducible refine keepN ?_) | (with_reducible refine keepV ?_)))); have t1 : w'.cell? ⟨w.heap.size, 1, none⟩ = some (.int .i64 g) := (by refine keepB hb (by first | omega | (simp <;> omega)) ?_; (repeat (first | assumption | (with_reducible refine keepD ?_) | (with_reducible refine keepN ?_) | (with_reducible refine keepV ?_)))); have t2 : w'.cell? ⟨w.heap.size, 2, none⟩ = some (.int .u64 a) := (by refine keepB hb (by first | omega | (simp <;> omega)) ?_; (repeat (first | assumption | (with_reducible refine keepD ?_) | (with_reducible refine keepN ?_) | (with_reducible refine keepV ?_)))); have t3 : w'.cell? ⟨w.heap.size, 3, none⟩ = some (.int .u64 b) := (by refine keepB hb (by first | omega | (simp <;> omega)) ?_; (repeat (first | assumption | (with_reducible refine keepD ?_) | (with_reducible refine keepN ?_) | (with_reducible refine keepV ?_)))); have t4 : w'.cell? ⟨w.heap.size, 4, none⟩ = some (.int .u64 c) := (by refine keepB hb (by first | omega | (simp <;> omega)) ?_; (repeat (first | assumption | (with_reducible refine keepD ?_) | (with_reducible refine keepN ?_) | (with_reducible refine keepV ?_)))); have t5 : w'.cell? ⟨w.heap.size, 5, none⟩ = some (.string p) := (by refine keepB hb (by first | omega | (simp <;> omega)) ?_; (repeat (first | assumption | (with_reducible refine keepD ?_) | (with_reducible refine keepN ?_) | (with_reducible refine keepV ?_)))); have v0 : w'.cell? ⟨w.heap.size + 1, 0, none⟩ = some (.int .u64 x) := (by refine keepB hb (by first | omega | (simp <;> omega)) ?_; (repeat (first | assumption | (with_reducible refine keepD ?_) | (with_reducible refine keepN ?_) | (with_reducible refine keepV ?_)))); have v1 : w'.cell? ⟨w.heap.size + 1, 1, none⟩ = some (.int .u64 y) := (by refine keepB hb (by first | omega | (simp <;> omega)) ?_; (repeat (first | assumption | (with_reducible refine keepD ?_) | (with_reducible refine keepN ?_) | (with_reducible refine keepV ?_)))); have v2 : w'.cell? ⟨w.heap.size + 1, 2, none⟩ = some (.int .u64 z) := (by refine keepB hb (by first | omega | (simp <;> omega)) ?_; (repeat (first | assumption | (with_reducible refine keepD ?_) | (with_reducible refine keepN ?_) | (with_reducible refine keepV ?_)))); have v3 : w'.cell? ⟨w.heap.size + 1, 3, none⟩ = some (.string q) := (by refine keepB hb (by first | omega | (simp <;> omega)) ?_; (repeat (first | assumption | (with_reducible refine keepD ?_) | (with_reducible refine keepN ?_) | (with_reducible refine keepV ?_)))); have v4 : w'.cell? ⟨w.heap.size + 1, 4, none⟩ = some (.string n) := (by refine keepB hb (by first | omega | (simp <;> omega)) ?_; (repeat (first | assumption | (with_reducible refine keepD ?_) | (with_reducible refine keepN ?_) | (with_reducible refine keepV ?_)))); have bk : Below w.heap.size w w' := Below.trans (by repeat (first | (with_reducible assumption) | (with_reducible exact Below.refl _ _) | (with_reducible refine below_drewN ?_ _) | (with_reducible refine Below.drew ?_) | (with_reducible refine Below.alloc ?_ (by first | omega | (simp <;> omega)) _))) (hb.mono (by first | omega | (simp <;> omega))); have nk : w.heap.size + 2 ≤ w'.heap.size := (by have := hb.size; first | omega | (simp at this; omega))))
  refine hK.out _ _ ?_ (fun hHeld => ?_)
  · (refine ⟨?_, ?_, ?_, ?_, ?_, ?_, ?_, ?_, ?_, ?_, ?_⟩ <;> (repeat (first | assumption | (with_reducible refine keepD ?_) | (with_reducible refine keepN ?_) | (with_reducible refine keepV ?_))))
  clear hK K
  (try simp only [Act.put, List.getElem_toArray, List.getElem_cons_zero, List.getElem_cons_succ, List.setIfInBounds_toArray, List.set_cons_zero, List.set_cons_succ])
  refine wpAnyH_ready (rs := [11]) (by kernel_rfl) (by simp) ?_
  refine AllReadyH.cons rfl (fun K hK => ?_) AllReadyH.nil
  go_simp
  (first | (go_at_call 66; refine (snAs_any _ _ _ _ _ _ _ _).mono ?_; rintro e w' ⟨rfl, rfl⟩) | (go_at_call 70; refine (spTilde_any g a b c x y z hg p q n hp hq _).mono ?_; rintro e w' ⟨rfl, hb⟩; rw [HC.out]; have t0 : w'.cell? ⟨w.heap.size, 0, none⟩ = some (.int .i64 o) := (by refine keepB hb (by first | omega | (simp <;> omega)) ?_; (repeat (first | assumption | (with_reducible refine keepD ?_) | (with_reducible refine keepN ?_) | (with_reducible refine keepV ?_)))); have t1 : w'.cell? ⟨w.heap.size, 1, none⟩ = some (.int .i64 g) := (by refine keepB hb (by first | omega | (simp <;> omega)) ?_; (repeat (first | assumption | (with_reducible refine keepD ?_) | (with_reducible refine keepN ?_) | (with_reducible refine keepV ?_)))); have t2 : w'.cell? ⟨w.heap.size, 2, none⟩ = some (.int .u64 a) := (by refine keepB hb (by first | omega | (simp <;> omega)) ?_; (repeat (first | assumption | (with_reducible refine keepD ?_) | (with_reducible refine keepN ?_) | (with_reducible refine keepV ?_)))); have t3 : w'.cell? ⟨w.heap.size, 3, none⟩ = some (.int .u64 b) := (by refine keepB hb (by first | omega | (simp <;> omega)) ?_; (repeat (first | assumption | (with_reducible refine keepD ?_) | (with_reducible refine keepN ?_) | (with_reducible refine keepV ?_)))); have t4 : w'.cell? ⟨w.heap.size, 4, none⟩ = some (.int .u64 c) := (by refine keepB hb (by first | omega | (simp <;> omega)) ?_; (repeat (first | assumption | (with_reducible refine keepD ?_) | (with_reducible refine keepN ?_) | (with_reducible refine keepV ?_)))); have t5 : w'.cell? ⟨w.heap.size, 5, none⟩ = some (.string p) := (by refine keepB hb (by first | omega | (simp <;> omega)) ?_; (repeat (first | assumption | (with_reducible refine keepD ?_) | (with_reducible refine keepN ?_) | (with_reducible refine keepV ?_)))); have v0 : w'.cell? ⟨w.heap.size + 1, 0, none⟩ = some (.int .u64 x) := (by refine keepB hb (by first | omega | (simp <;> omega)) ?_; (repeat (first | assumption | (with_reducible refine keepD ?_) | (with_reducible refine keepN ?_) | (with_reducible refine keepV ?_)))); have v1 : w'.cell? ⟨w.heap.size + 1, 1, none⟩ = some (.int .u64 y) := (by refine keepB hb (by first | omega | (simp <;> omega)) ?_; (repeat (first | assumption | (with_reducible refine keepD ?_) | (with_reducible refine keepN ?_) | (with_reducible refine keepV ?_)))); have v2 : w'.cell? ⟨w.heap.size + 1, 2, none⟩ = some (.int .u64 z) := (by refine keepB hb (by first | omega | (simp <;> omega)) ?_; (repeat (first | assumption | (with_reducible refine keepD ?_) | (with_reducible refine keepN ?_) | (with_reducible refine keepV ?_)))); have v3 : w'.cell? ⟨w.heap.size + 1, 3, none⟩ = some (.string q) := (by refine keepB hb (by first | omega | (simp <;> omega)) ?_; (repeat (first | assumption | (with_reducible refine keepD ?_) | (with_reducible refine keepN ?_) | (with_reducible refine keepV ?_)))); have v4 : w'.cell? ⟨w.heap.size + 1, 4, none⟩ = some (.string n) := (by refine keepB hb (by first | omega | (simp <;> omega)) ?_; (repeat (first | assumption | (with_reducible refine keepD ?_) | (with_reducible refine keepN ?_) | (with_reducible refine keepV ?_)))); have bk : Below w.heap.size w w' := Below.trans (by repeat (first | (with_reducible assumption) | (with_reducible exact Below.refl _ _) | (with_reducible refine below_drewN ?_ _) | (with_reducible refine Below.drew ?_) | (with_reducible refine Below.alloc ?_ (by first | omega | (simp <;> omega)) _))) (hb.mono (by first | omega | (simp <;> omega))); have nk : w.heap.size + 2 ≤ w'.heap.size := (by have := hb.size; first | omega | (simp at this; omega))))
  refine hK.out _ _ ?_ (fun hHeld => ?_)
  · (refine ⟨?_, ?_, ?_, ?_, ?_, ?_, ?_, ?_, ?_, ?_, ?_⟩ <;> (repeat (first | assumption | (with_reducible refine keepD ?_) | (with_reducible refine keepN ?_) | (with_reducible refine keepV ?_))))
  clear hK K
  (try simp only [Act.put, List.getElem_toArray, List.getElem_cons_zero, List.getElem_cons_succ, List.setIfInBounds_toArray, List.set_cons_zero, List.set_cons_succ])
  refine wpAnyH_take (i := 12) (v := ?_) rfl (by kernel_rfl) (by kernel_rfl) (by kernel_rfl) (fun _ _ _ h => h) (Or.inl ⟨by rfl, ?_⟩) (by assumption) ?_
  rotate_left
  · (intro w hSw; (try dsimp only at hSw); go_split_ands; go_simp; (try with_reducible rfl))
  (try simp only [Act.put, List.getElem_toArray, List.getElem_cons_zero, List.getElem_cons_succ, List.setIfInBounds_toArray, List.set_cons_zero, List.set_cons_succ])
  refine wpAnyH_take (i := 13) (v := ?_) rfl (by kernel_rfl) (by kernel_rfl) (by kernel_rfl) (fun _ _ _ h => h) (Or.inl ⟨by rfl, ?_⟩) (by assumption) ?_
  rotate_left
  · (intro w hSw; (try dsimp only at hSw); go_split_ands; go_simp; (try with_reducible rfl))
  (try simp only [Act.put, List.getElem_toArray, List.getElem_cons_zero, List.getElem_cons_succ, List.setIfInBounds_toArray, List.set_cons_zero, List.set_cons_succ])
  refine wpAnyH_done (by kernel_rfl) ?_ _
  go_wp2_with fail
  go_ret
  exact ⟨rfl, (by repeat (first | (with_reducible assumption) | (with_reducible exact Below.refl _ _) | (with_reducible refine below_drewN ?_ _) | (with_reducible refine Below.drew ?_) | (with_reducible refine Below.alloc ?_ (by first | omega | (simp <;> omega)) _)))⟩

set_option maxRecDepth 100000 in
set_option maxHeartbeats 4000000 in
theorem snWant_e (o g a b c x y z : Int) (hg : 0 ≤ g ∧ g ≤ 3) (p q n : ByteArray) (hp : p.size ≤ 2147483653) (hq : q.size ≤ 2147483653) (w : World) (C : Bool) (HC : Hid ((decide (0 ≤ specCmp x y z q a b c p) && (numI (min 2 g) x y z a b c == 0)) = C)) (h : q.toList = []) :
    Calls Tryd.prog 28 #[.agg (termC o g a b c p), .int .i64 6, .agg (plainC x y z q n), .bool false] w (BoolPost C w) := by
  go_enter Tryd.func28, Tryd.ntmps28
  go_wp2_with fail
  refine wp_named ?_
  intro W0 hW0
  have t0 : W0.cell? ⟨w.heap.size, 0, none⟩ = some (.int .i64 o) := by rw [← hW0]; exact keepV (TermAt w _ _ rfl 0)
  have t1 : W0.cell? ⟨w.heap.size, 1, none⟩ = some (.int .i64 g) := by rw [← hW0]; exact keepV (TermAt w _ _ rfl 1)
  have t2 : W0.cell? ⟨w.heap.size, 2, none⟩ = some (.int .u64 a) := by rw [← hW0]; exact keepV (TermAt w _ _ rfl 2)
  have t3 : W0.cell? ⟨w.heap.size, 3, none⟩ = some (.int .u64 b) := by rw [← hW0]; exact keepV (TermAt w _ _ rfl 3)
  have t4 : W0.cell? ⟨w.heap.size, 4, none⟩ = some (.int .u64 c) := by rw [← hW0]; exact keepV (TermAt w _ _ rfl 4)
  have t5 : W0.cell? ⟨w.heap.size, 5, none⟩ = some (.string p) := by rw [← hW0]; exact keepV (TermAt w _ _ rfl 5)
  have v0 : W0.cell? ⟨w.heap.size + 1, 0, none⟩ = some (.int .u64 x) := by rw [← hW0]; exact (plainAt_last _ _ _ (by simp)).cell 0
  have v1 : W0.cell? ⟨w.heap.size + 1, 1, none⟩ = some (.int .u64 y) := by rw [← hW0]; exact (plainAt_last _ _ _ (by simp)).cell 1
  have v2 : W0.cell? ⟨w.heap.size + 1, 2, none⟩ = some (.int .u64 z) := by rw [← hW0]; exact (plainAt_last _ _ _ (by simp)).cell 2
  have v3 : W0.cell? ⟨w.heap.size + 1, 3, none⟩ = some (.string q) := by rw [← hW0]; exact (plainAt_last _ _ _ (by simp)).cell 3
  have v4 : W0.cell? ⟨w.heap.size + 1, 4, none⟩ = some (.string n) := by rw [← hW0]; exact (plainAt_last _ _ _ (by simp)).cell 4
  have bk : Below w.heap.size w W0 := by rw [← hW0]; exact (by repeat (first | (with_reducible assumption) | (with_reducible exact Below.refl _ _) | (with_reducible refine below_drewN ?_ _) | (with_reducible refine Below.drew ?_) | (with_reducible refine Below.alloc ?_ (by first | omega | (simp <;> omega)) _)))
  have nk : w.heap.size + 2 ≤ W0.heap.size := by rw [← hW0]; simp <;> omega
  clear hW0
  refine wp_region_held_drew (S := (fun w' => w'.cell? ⟨w.heap.size, 0, none⟩ = some (.int .i64 o) ∧ w'.cell? ⟨w.heap.size, 1, none⟩ = some (.int .i64 g) ∧ w'.cell? ⟨w.heap.size, 2, none⟩ = some (.int .u64 a) ∧ w'.cell? ⟨w.heap.size, 3, none⟩ = some (.int .u64 b) ∧ w'.cell? ⟨w.heap.size, 4, none⟩ = some (.int .u64 c) ∧ w'.cell? ⟨w.heap.size, 5, none⟩ = some (.string p) ∧ w'.cell? ⟨w.heap.size + 1, 0, none⟩ = some (.int .u64 x) ∧ w'.cell? ⟨w.heap.size + 1, 1, none⟩ = some (.int .u64 y) ∧ w'.cell? ⟨w.heap.size + 1, 2, none⟩ = some (.int .u64 z) ∧ w'.cell? ⟨w.heap.size + 1, 3, none⟩ = some (.string q) ∧ w'.cell? ⟨w.heap.size + 1, 4, none⟩ = some (.string n))) (by kernel_rfl) ?_ (fun hHeld => ?_)
  · (refine ⟨?_, ?_, ?_, ?_, ?_, ?_, ?_, ?_, ?_, ?_, ?_⟩ <;> (repeat (first | assumption | (with_reducible refine keepD ?_) | (with_reducible refine keepN ?_) | (with_reducible refine keepV ?_))))
  refine wpAnyH_take (i := 0) (v := ?_) rfl (by kernel_rfl) (by kernel_rfl) (by kernel_rfl) (fun _ _ _ h => h) (Or.inl ⟨by rfl, ?_⟩) (by assumption) ?_
  rotate_left
  · (intro w hSw; (try dsimp only at hSw); go_split_ands; go_simp; (try with_reducible rfl))
  (try simp only [Act.put, List.getElem_toArray, List.getElem_cons_zero, List.getElem_cons_succ, List.setIfInBounds_toArray, List.set_cons_zero, List.set_cons_succ])
  refine wpAnyH_take (i := 1) (v := ?_) rfl (by kernel_rfl) (by kernel_rfl) (by kernel_rfl) (fun _ _ _ h => h) (Or.inl ⟨by rfl, ?_⟩) (by assumption) ?_
  rotate_left
  · (intro w hSw; (try dsimp only at hSw); go_split_ands; go_simp; (try with_reducible rfl))
  (try simp only [Act.put, List.getElem_toArray, List.getElem_cons_zero, List.getElem_cons_succ, List.setIfInBounds_toArray, List.set_cons_zero, List.set_cons_succ])
  refine wpAnyH_take (i := 2) (v := ?_) rfl (by kernel_rfl) (by kernel_rfl) (by kernel_rfl) (fun _ _ _ h => h) (Or.inl ⟨by rfl, ?_⟩) (by assumption) ?_
  rotate_left
  · (intro w hSw; (try dsimp only at hSw); go_split_ands; go_simp; (try with_reducible rfl))
  (try simp only [Act.put, List.getElem_toArray, List.getElem_cons_zero, List.getElem_cons_succ, List.setIfInBounds_toArray, List.set_cons_zero, List.set_cons_succ])
  refine wpAnyH_take (i := 3) (v := ?_) rfl (by kernel_rfl) (by kernel_rfl) (by kernel_rfl) (fun _ _ _ h => h) (Or.inl ⟨by rfl, ?_⟩) (by assumption) ?_
  rotate_left
  · (intro w hSw; (try dsimp only at hSw); go_split_ands; go_simp; (try with_reducible rfl))
  (try simp only [Act.put, List.getElem_toArray, List.getElem_cons_zero, List.getElem_cons_succ, List.setIfInBounds_toArray, List.set_cons_zero, List.set_cons_succ])
  refine wpAnyH_take (i := 4) (v := ?_) rfl (by kernel_rfl) (by kernel_rfl) (by kernel_rfl) (fun _ _ _ h => h) (Or.inl ⟨by rfl, ?_⟩) (by assumption) ?_
  rotate_left
  · (intro w hSw; (try dsimp only at hSw); go_split_ands; go_simp; (try with_reducible rfl))
  (try simp only [Act.put, List.getElem_toArray, List.getElem_cons_zero, List.getElem_cons_succ, List.setIfInBounds_toArray, List.set_cons_zero, List.set_cons_succ])
  refine wpAnyH_take (i := 5) (v := ?_) rfl (by kernel_rfl) (by kernel_rfl) (by kernel_rfl) (fun _ _ _ h => h) (Or.inl ⟨by rfl, ?_⟩) (by assumption) ?_
  rotate_left
  · (intro w hSw; (try dsimp only at hSw); go_split_ands; go_simp; (try with_reducible rfl))
  (try simp only [Act.put, List.getElem_toArray, List.getElem_cons_zero, List.getElem_cons_succ, List.setIfInBounds_toArray, List.set_cons_zero, List.set_cons_succ])
  refine wpAnyH_take (i := 6) (v := ?_) rfl (by kernel_rfl) (by kernel_rfl) (by kernel_rfl) (fun _ _ _ h => h) (Or.inl ⟨by rfl, ?_⟩) (by assumption) ?_
  rotate_left
  · (intro w hSw; (try dsimp only at hSw); go_split_ands; go_simp; (try with_reducible rfl))
  (try simp only [Act.put, List.getElem_toArray, List.getElem_cons_zero, List.getElem_cons_succ, List.setIfInBounds_toArray, List.set_cons_zero, List.set_cons_succ])
  refine wpAnyH_take (i := 7) (v := ?_) rfl (by kernel_rfl) (by kernel_rfl) (by kernel_rfl) (fun _ _ _ h => h) (Or.inl ⟨by rfl, ?_⟩) (by assumption) ?_
  rotate_left
  · (intro w hSw; (try dsimp only at hSw); go_split_ands; go_simp; (try with_reducible rfl))
  (try simp only [Act.put, List.getElem_toArray, List.getElem_cons_zero, List.getElem_cons_succ, List.setIfInBounds_toArray, List.set_cons_zero, List.set_cons_succ])
  refine wpAnyH_take (i := 8) (v := ?_) rfl (by kernel_rfl) (by kernel_rfl) (by kernel_rfl) (fun _ _ _ h => h) (Or.inl ⟨by rfl, ?_⟩) (by assumption) ?_
  rotate_left
  · (intro w hSw; (try dsimp only at hSw); go_split_ands; go_simp; (try with_reducible rfl))
  (try simp only [Act.put, List.getElem_toArray, List.getElem_cons_zero, List.getElem_cons_succ, List.setIfInBounds_toArray, List.set_cons_zero, List.set_cons_succ])
  refine wpAnyH_take (i := 10) (v := ?_) rfl (by kernel_rfl) (by kernel_rfl) (by kernel_rfl) (fun _ _ _ h => h) (Or.inl ⟨by rfl, ?_⟩) (by assumption) ?_
  rotate_left
  · (intro w hSw; (try dsimp only at hSw); go_split_ands; go_simp; (try with_reducible rfl))
  (try simp only [Act.put, List.getElem_toArray, List.getElem_cons_zero, List.getElem_cons_succ, List.setIfInBounds_toArray, List.set_cons_zero, List.set_cons_succ])
  refine wpAnyH_ready (rs := [9]) (by kernel_rfl) (by simp) ?_
  refine AllReadyH.cons rfl (fun K hK => ?_) AllReadyH.nil
  go_simp
  (first | (go_at_call 66; refine (snAs_any _ _ _ _ _ _ _ _).mono ?_; rintro e w' ⟨rfl, rfl⟩) | (go_at_call 70; refine (spTilde_any g a b c x y z hg p q n hp hq _).mono ?_; rintro e w' ⟨rfl, hb⟩; rw [HC.out]; have t0 : w'.cell? ⟨w.heap.size, 0, none⟩ = some (.int .i64 o) := (by refine keepB hb (by first | omega | (simp <;> omega)) ?_; (repeat (first | assumption | (with_reducible refine keepD ?_) | (with_reducible refine keepN ?_) | (with_reducible refine keepV ?_)))); have t1 : w'.cell? ⟨w.heap.size, 1, none⟩ = some (.int .i64 g) := (by refine keepB hb (by first | omega | (simp <;> omega)) ?_; (repeat (first | assumption | (with_reducible refine keepD ?_) | (with_reducible refine keepN ?_) | (with_reducible refine keepV ?_)))); have t2 : w'.cell? ⟨w.heap.size, 2, none⟩ = some (.int .u64 a) := (by refine keepB hb (by first | omega | (simp <;> omega)) ?_; (repeat (first | assumption | (with_reducible refine keepD ?_) | (with_reducible refine keepN ?_) | (with_reducible refine keepV ?_)))); have t3 : w'.cell? ⟨w.heap.size, 3, none⟩ = some (.int .u64 b) := (by refine keepB hb (by first | omega | (simp <;> omega)) ?_; (repeat (first | assumption | (with_reducible refine keepD ?_) | (with_reducible refine keepN ?_) | (with_reducible refine keepV ?_)))); have t4 : w'.cell? ⟨w.heap.size, 4, none⟩ = some (.int .u64 c) := (by refine keepB hb (by first | omega | (simp <;> omega)) ?_; (repeat (first | assumption | (with_reducible refine keepD ?_) | (with_reducible refine keepN ?_) | (with_reducible refine keepV ?_)))); have t5 : w'.cell? ⟨w.heap.size, 5, none⟩ = some (.string p) := (by refine keepB hb (by first | omega | (simp <;> omega)) ?_; (repeat (first | assumption | (with_reducible refine keepD ?_) | (with_reducible refine keepN ?_) | (with_reducible refine keepV ?_)))); have v0 : w'.cell? ⟨w.heap.size + 1, 0, none⟩ = some (.int .u64 x) := (by refine keepB hb (by first | omega | (simp <;> omega)) ?_; (repeat (first | assumption | (with_reducible refine keepD ?_) | (with_reducible refine keepN ?_) | (with_reducible refine keepV ?_)))); have v1 : w'.cell? ⟨w.heap.size + 1, 1, none⟩ = some (.int .u64 y) := (by refine keepB hb (by first | omega | (simp <;> omega)) ?_; (repeat (first | assumption | (with_reducible refine keepD ?_) | (with_reducible refine keepN ?_) | (with_reducible refine keepV ?_)))); have v2 : w'.cell? ⟨w.heap.size + 1, 2, none⟩ = some (.int .u64 z) := (by refine keepB hb (by first | omega | (simp <;> omega)) ?_; (repeat (first | assumption | (with_reducible refine keepD ?_) | (with_reducible refine keepN ?_) | (with_reducible refine keepV ?_)))); have v3 : w'.cell? ⟨w.heap.size + 1, 3, none⟩ = some (.string q) := (by refine keepB hb (by first | omega | (simp <;> omega)) ?_; (repeat (first | assumption | (with_reducible refine keepD ?_) | (with_reducible refine keepN ?_) | (with_reducible refine keepV ?_)))); have v4 : w'.cell? ⟨w.heap.size + 1, 4, none⟩ = some (.string n) := (by refine keepB hb (by first | omega | (simp <;> omega)) ?_; (repeat (first | assumption | (with_reducible refine keepD ?_) | (with_reducible refine keepN ?_) | (with_reducible refine keepV ?_)))); have bk : Below w.heap.size w w' := Below.trans (by repeat (first | (with_reducible assumption) | (with_reducible exact Below.refl _ _) | (with_reducible refine below_drewN ?_ _) | (with_reducible refine Below.drew ?_) | (with_reducible refine Below.alloc ?_ (by first | omega | (simp <;> omega)) _))) (hb.mono (by first | omega | (simp <;> omega))); have nk : w.heap.size + 2 ≤ w'.heap.size := (by have := hb.size; first | omega | (simp at this; omega))))
  refine hK.out _ _ ?_ (fun hHeld => ?_)
  · (refine ⟨?_, ?_, ?_, ?_, ?_, ?_, ?_, ?_, ?_, ?_, ?_⟩ <;> (repeat (first | assumption | (with_reducible refine keepD ?_) | (with_reducible refine keepN ?_) | (with_reducible refine keepV ?_))))
  clear hK K
  (try simp only [Act.put, List.getElem_toArray, List.getElem_cons_zero, List.getElem_cons_succ, List.setIfInBounds_toArray, List.set_cons_zero, List.set_cons_succ])
  refine wpAnyH_ready (rs := [11]) (by kernel_rfl) (by simp) ?_
  refine AllReadyH.cons rfl (fun K hK => ?_) AllReadyH.nil
  go_simp
  (first | (go_at_call 66; refine (snAs_any _ _ _ _ _ _ _ _).mono ?_; rintro e w' ⟨rfl, rfl⟩) | (go_at_call 70; refine (spTilde_any g a b c x y z hg p q n hp hq _).mono ?_; rintro e w' ⟨rfl, hb⟩; rw [HC.out]; have t0 : w'.cell? ⟨w.heap.size, 0, none⟩ = some (.int .i64 o) := (by refine keepB hb (by first | omega | (simp <;> omega)) ?_; (repeat (first | assumption | (with_reducible refine keepD ?_) | (with_reducible refine keepN ?_) | (with_reducible refine keepV ?_)))); have t1 : w'.cell? ⟨w.heap.size, 1, none⟩ = some (.int .i64 g) := (by refine keepB hb (by first | omega | (simp <;> omega)) ?_; (repeat (first | assumption | (with_reducible refine keepD ?_) | (with_reducible refine keepN ?_) | (with_reducible refine keepV ?_)))); have t2 : w'.cell? ⟨w.heap.size, 2, none⟩ = some (.int .u64 a) := (by refine keepB hb (by first | omega | (simp <;> omega)) ?_; (repeat (first | assumption | (with_reducible refine keepD ?_) | (with_reducible refine keepN ?_) | (with_reducible refine keepV ?_)))); have t3 : w'.cell? ⟨w.heap.size, 3, none⟩ = some (.int .u64 b) := (by refine keepB hb (by first | omega | (simp <;> omega)) ?_; (repeat (first | assumption | (with_reducible refine keepD ?_) | (with_reducible refine keepN ?_) | (with_reducible refine keepV ?_)))); have t4 : w'.cell? ⟨w.heap.size, 4, none⟩ = some (.int .u64 c) := (by refine keepB hb (by first | omega | (simp <;> omega)) ?_; (repeat (first | assumption | (with_reducible refine keepD ?_) | (with_reducible refine keepN ?_) | (with_reducible refine keepV ?_)))); have t5 : w'.cell? ⟨w.heap.size, 5, none⟩ = some (.string p) := (by refine keepB hb (by first | omega | (simp <;> omega)) ?_; (repeat (first | assumption | (with_reducible refine keepD ?_) | (with_reducible refine keepN ?_) | (with_reducible refine keepV ?_)))); have v0 : w'.cell? ⟨w.heap.size + 1, 0, none⟩ = some (.int .u64 x) := (by refine keepB hb (by first | omega | (simp <;> omega)) ?_; (repeat (first | assumption | (with_reducible refine keepD ?_) | (with_reducible refine keepN ?_) | (with_reducible refine keepV ?_)))); have v1 : w'.cell? ⟨w.heap.size + 1, 1, none⟩ = some (.int .u64 y) := (by refine keepB hb (by first | omega | (simp <;> omega)) ?_; (repeat (first | assumption | (with_reducible refine keepD ?_) | (with_reducible refine keepN ?_) | (with_reducible refine keepV ?_)))); have v2 : w'.cell? ⟨w.heap.size + 1, 2, none⟩ = some (.int .u64 z) := (by refine keepB hb (by first | omega | (simp <;> omega)) ?_; (repeat (first | assumption | (with_reducible refine keepD ?_) | (with_reducible refine keepN ?_) | (with_reducible refine keepV ?_)))); have v3 : w'.cell? ⟨w.heap.size + 1, 3, none⟩ = some (.string q) := (by refine keepB hb (by first | omega | (simp <;> omega)) ?_; (repeat (first | assumption | (with_reducible refine keepD ?_) | (with_reducible refine keepN ?_) | (with_reducible refine keepV ?_)))); have v4 : w'.cell? ⟨w.heap.size + 1, 4, none⟩ = some (.string n) := (by refine keepB hb (by first | omega | (simp <;> omega)) ?_; (repeat (first | assumption | (with_reducible refine keepD ?_) | (with_reducible refine keepN ?_) | (with_reducible refine keepV ?_)))); have bk : Below w.heap.size w w' := Below.trans (by repeat (first | (with_reducible assumption) | (with_reducible exact Below.refl _ _) | (with_reducible refine below_drewN ?_ _) | (with_reducible refine Below.drew ?_) | (with_reducible refine Below.alloc ?_ (by first | omega | (simp <;> omega)) _))) (hb.mono (by first | omega | (simp <;> omega))); have nk : w.heap.size + 2 ≤ w'.heap.size := (by have := hb.size; first | omega | (simp at this; omega))))
  refine hK.out _ _ ?_ (fun hHeld => ?_)
  · (refine ⟨?_, ?_, ?_, ?_, ?_, ?_, ?_, ?_, ?_, ?_, ?_⟩ <;> (repeat (first | assumption | (with_reducible refine keepD ?_) | (with_reducible refine keepN ?_) | (with_reducible refine keepV ?_))))
  clear hK K
  (try simp only [Act.put, List.getElem_toArray, List.getElem_cons_zero, List.getElem_cons_succ, List.setIfInBounds_toArray, List.set_cons_zero, List.set_cons_succ])
  refine wpAnyH_take (i := 12) (v := ?_) rfl (by kernel_rfl) (by kernel_rfl) (by kernel_rfl) (fun _ _ _ h => h) (Or.inl ⟨by rfl, ?_⟩) (by assumption) ?_
  rotate_left
  · (intro w hSw; (try dsimp only at hSw); go_split_ands; go_simp; (try with_reducible rfl))
  (try simp only [Act.put, List.getElem_toArray, List.getElem_cons_zero, List.getElem_cons_succ, List.setIfInBounds_toArray, List.set_cons_zero, List.set_cons_succ])
  refine wpAnyH_take (i := 13) (v := ?_) rfl (by kernel_rfl) (by kernel_rfl) (by kernel_rfl) (fun _ _ _ h => h) (Or.inl ⟨by rfl, ?_⟩) (by assumption) ?_
  rotate_left
  · (intro w hSw; (try dsimp only at hSw); go_split_ands; go_simp; (try with_reducible rfl))
  (try simp only [Act.put, List.getElem_toArray, List.getElem_cons_zero, List.getElem_cons_succ, List.setIfInBounds_toArray, List.set_cons_zero, List.set_cons_succ])
  refine wpAnyH_done (by kernel_rfl) ?_ _
  go_wp2_with fail
  go_ret
  exact ⟨rfl, (by repeat (first | (with_reducible assumption) | (with_reducible exact Below.refl _ _) | (with_reducible refine below_drewN ?_ _) | (with_reducible refine Below.drew ?_) | (with_reducible refine Below.alloc ?_ (by first | omega | (simp <;> omega)) _)))⟩

set_option maxRecDepth 100000 in
set_option maxHeartbeats 4000000 in
theorem snWant_n (o g a b c x y z : Int) (hg : 0 ≤ g ∧ g ≤ 3) (p q n : ByteArray) (hp : p.size ≤ 2147483653) (hq : q.size ≤ 2147483653) (w : World) (C : Bool) (HC : Hid ((decide (0 ≤ specCmp x y z q a b c p) && (numI (min 2 g) x y z a b c == 0)) = C)) (h : q.toList.isEmpty = false) :
    Calls Tryd.prog 28 #[.agg (termC o g a b c p), .int .i64 6, .agg (plainC x y z q n), .bool false] w (BoolPost false w) := by
  go_enter Tryd.func28, Tryd.ntmps28
  go_wp2_with fail
  refine wp_named ?_
  intro W0 hW0
  have t0 : W0.cell? ⟨w.heap.size, 0, none⟩ = some (.int .i64 o) := by rw [← hW0]; exact keepV (TermAt w _ _ rfl 0)
  have t1 : W0.cell? ⟨w.heap.size, 1, none⟩ = some (.int .i64 g) := by rw [← hW0]; exact keepV (TermAt w _ _ rfl 1)
  have t2 : W0.cell? ⟨w.heap.size, 2, none⟩ = some (.int .u64 a) := by rw [← hW0]; exact keepV (TermAt w _ _ rfl 2)
  have t3 : W0.cell? ⟨w.heap.size, 3, none⟩ = some (.int .u64 b) := by rw [← hW0]; exact keepV (TermAt w _ _ rfl 3)
  have t4 : W0.cell? ⟨w.heap.size, 4, none⟩ = some (.int .u64 c) := by rw [← hW0]; exact keepV (TermAt w _ _ rfl 4)
  have t5 : W0.cell? ⟨w.heap.size, 5, none⟩ = some (.string p) := by rw [← hW0]; exact keepV (TermAt w _ _ rfl 5)
  have v0 : W0.cell? ⟨w.heap.size + 1, 0, none⟩ = some (.int .u64 x) := by rw [← hW0]; exact (plainAt_last _ _ _ (by simp)).cell 0
  have v1 : W0.cell? ⟨w.heap.size + 1, 1, none⟩ = some (.int .u64 y) := by rw [← hW0]; exact (plainAt_last _ _ _ (by simp)).cell 1
  have v2 : W0.cell? ⟨w.heap.size + 1, 2, none⟩ = some (.int .u64 z) := by rw [← hW0]; exact (plainAt_last _ _ _ (by simp)).cell 2
  have v3 : W0.cell? ⟨w.heap.size + 1, 3, none⟩ = some (.string q) := by rw [← hW0]; exact (plainAt_last _ _ _ (by simp)).cell 3
  have v4 : W0.cell? ⟨w.heap.size + 1, 4, none⟩ = some (.string n) := by rw [← hW0]; exact (plainAt_last _ _ _ (by simp)).cell 4
  have bk : Below w.heap.size w W0 := by rw [← hW0]; exact (by repeat (first | (with_reducible assumption) | (with_reducible exact Below.refl _ _) | (with_reducible refine below_drewN ?_ _) | (with_reducible refine Below.drew ?_) | (with_reducible refine Below.alloc ?_ (by first | omega | (simp <;> omega)) _)))
  have nk : w.heap.size + 2 ≤ W0.heap.size := by rw [← hW0]; simp <;> omega
  clear hW0
  refine wp_region_held_drew (S := (fun w' => w'.cell? ⟨w.heap.size, 0, none⟩ = some (.int .i64 o) ∧ w'.cell? ⟨w.heap.size, 1, none⟩ = some (.int .i64 g) ∧ w'.cell? ⟨w.heap.size, 2, none⟩ = some (.int .u64 a) ∧ w'.cell? ⟨w.heap.size, 3, none⟩ = some (.int .u64 b) ∧ w'.cell? ⟨w.heap.size, 4, none⟩ = some (.int .u64 c) ∧ w'.cell? ⟨w.heap.size, 5, none⟩ = some (.string p) ∧ w'.cell? ⟨w.heap.size + 1, 0, none⟩ = some (.int .u64 x) ∧ w'.cell? ⟨w.heap.size + 1, 1, none⟩ = some (.int .u64 y) ∧ w'.cell? ⟨w.heap.size + 1, 2, none⟩ = some (.int .u64 z) ∧ w'.cell? ⟨w.heap.size + 1, 3, none⟩ = some (.string q) ∧ w'.cell? ⟨w.heap.size + 1, 4, none⟩ = some (.string n))) (by kernel_rfl) ?_ (fun hHeld => ?_)
  · (refine ⟨?_, ?_, ?_, ?_, ?_, ?_, ?_, ?_, ?_, ?_, ?_⟩ <;> (repeat (first | assumption | (with_reducible refine keepD ?_) | (with_reducible refine keepN ?_) | (with_reducible refine keepV ?_))))
  refine wpAnyH_take (i := 0) (v := ?_) rfl (by kernel_rfl) (by kernel_rfl) (by kernel_rfl) (fun _ _ _ h => h) (Or.inl ⟨by rfl, ?_⟩) (by assumption) ?_
  rotate_left
  · (intro w hSw; (try dsimp only at hSw); go_split_ands; go_simp; (try with_reducible rfl))
  (try simp only [Act.put, List.getElem_toArray, List.getElem_cons_zero, List.getElem_cons_succ, List.setIfInBounds_toArray, List.set_cons_zero, List.set_cons_succ])
  refine wpAnyH_take (i := 1) (v := ?_) rfl (by kernel_rfl) (by kernel_rfl) (by kernel_rfl) (fun _ _ _ h => h) (Or.inl ⟨by rfl, ?_⟩) (by assumption) ?_
  rotate_left
  · (intro w hSw; (try dsimp only at hSw); go_split_ands; go_simp; (try with_reducible rfl))
  (try simp only [Act.put, List.getElem_toArray, List.getElem_cons_zero, List.getElem_cons_succ, List.setIfInBounds_toArray, List.set_cons_zero, List.set_cons_succ])
  refine wpAnyH_take (i := 2) (v := ?_) rfl (by kernel_rfl) (by kernel_rfl) (by kernel_rfl) (fun _ _ _ h => h) (Or.inl ⟨by rfl, ?_⟩) (by assumption) ?_
  rotate_left
  · (intro w hSw; (try dsimp only at hSw); go_split_ands; go_simp; (try with_reducible rfl))
  (try simp only [Act.put, List.getElem_toArray, List.getElem_cons_zero, List.getElem_cons_succ, List.setIfInBounds_toArray, List.set_cons_zero, List.set_cons_succ])
  refine wpAnyH_take (i := 3) (v := ?_) rfl (by kernel_rfl) (by kernel_rfl) (by kernel_rfl) (fun _ _ _ h => h) (Or.inl ⟨by rfl, ?_⟩) (by assumption) ?_
  rotate_left
  · (intro w hSw; (try dsimp only at hSw); go_split_ands; go_simp; (try with_reducible rfl))
  (try simp only [Act.put, List.getElem_toArray, List.getElem_cons_zero, List.getElem_cons_succ, List.setIfInBounds_toArray, List.set_cons_zero, List.set_cons_succ])
  refine wpAnyH_take (i := 4) (v := ?_) rfl (by kernel_rfl) (by kernel_rfl) (by kernel_rfl) (fun _ _ _ h => h) (Or.inl ⟨by rfl, ?_⟩) (by assumption) ?_
  rotate_left
  · (intro w hSw; (try dsimp only at hSw); go_split_ands; go_simp; (try with_reducible rfl))
  (try simp only [Act.put, List.getElem_toArray, List.getElem_cons_zero, List.getElem_cons_succ, List.setIfInBounds_toArray, List.set_cons_zero, List.set_cons_succ])
  refine wpAnyH_take (i := 5) (v := ?_) rfl (by kernel_rfl) (by kernel_rfl) (by kernel_rfl) (fun _ _ _ h => h) (Or.inl ⟨by rfl, ?_⟩) (by assumption) ?_
  rotate_left
  · (intro w hSw; (try dsimp only at hSw); go_split_ands; go_simp; (try with_reducible rfl))
  (try simp only [Act.put, List.getElem_toArray, List.getElem_cons_zero, List.getElem_cons_succ, List.setIfInBounds_toArray, List.set_cons_zero, List.set_cons_succ])
  refine wpAnyH_take (i := 6) (v := ?_) rfl (by kernel_rfl) (by kernel_rfl) (by kernel_rfl) (fun _ _ _ h => h) (Or.inl ⟨by rfl, ?_⟩) (by assumption) ?_
  rotate_left
  · (intro w hSw; (try dsimp only at hSw); go_split_ands; go_simp; (try with_reducible rfl))
  (try simp only [Act.put, List.getElem_toArray, List.getElem_cons_zero, List.getElem_cons_succ, List.setIfInBounds_toArray, List.set_cons_zero, List.set_cons_succ])
  refine wpAnyH_take (i := 7) (v := undef) rfl (by kernel_rfl) (by kernel_rfl) (by kernel_rfl) (fun _ _ _ h => h) (Or.inr ⟨by rfl, rfl⟩) (by assumption) ?_
  (try simp only [Act.put, List.getElem_toArray, List.getElem_cons_zero, List.getElem_cons_succ, List.setIfInBounds_toArray, List.set_cons_zero, List.set_cons_succ])
  refine wpAnyH_take (i := 8) (v := undef) rfl (by kernel_rfl) (by kernel_rfl) (by kernel_rfl) (fun _ _ _ h => h) (Or.inr ⟨by rfl, rfl⟩) (by assumption) ?_
  (try simp only [Act.put, List.getElem_toArray, List.getElem_cons_zero, List.getElem_cons_succ, List.setIfInBounds_toArray, List.set_cons_zero, List.set_cons_succ])
  refine wpAnyH_take (i := 9) (v := undef) rfl (by kernel_rfl) (by kernel_rfl) (by kernel_rfl) (fun _ _ _ h => h) (Or.inr ⟨by rfl, rfl⟩) (by assumption) ?_
  (try simp only [Act.put, List.getElem_toArray, List.getElem_cons_zero, List.getElem_cons_succ, List.setIfInBounds_toArray, List.set_cons_zero, List.set_cons_succ])
  refine wpAnyH_take (i := 10) (v := undef) rfl (by kernel_rfl) (by kernel_rfl) (by kernel_rfl) (fun _ _ _ h => h) (Or.inr ⟨by rfl, rfl⟩) (by assumption) ?_
  (try simp only [Act.put, List.getElem_toArray, List.getElem_cons_zero, List.getElem_cons_succ, List.setIfInBounds_toArray, List.set_cons_zero, List.set_cons_succ])
  refine wpAnyH_take (i := 11) (v := undef) rfl (by kernel_rfl) (by kernel_rfl) (by kernel_rfl) (fun _ _ _ h => h) (Or.inr ⟨by rfl, rfl⟩) (by assumption) ?_
  (try simp only [Act.put, List.getElem_toArray, List.getElem_cons_zero, List.getElem_cons_succ, List.setIfInBounds_toArray, List.set_cons_zero, List.set_cons_succ])
  refine wpAnyH_take (i := 12) (v := ?_) rfl (by kernel_rfl) (by kernel_rfl) (by kernel_rfl) (fun _ _ _ h => h) (Or.inl ⟨by rfl, ?_⟩) (by assumption) ?_
  rotate_left
  · (intro w hSw; (try dsimp only at hSw); go_split_ands; go_simp; (try with_reducible rfl))
  (try simp only [Act.put, List.getElem_toArray, List.getElem_cons_zero, List.getElem_cons_succ, List.setIfInBounds_toArray, List.set_cons_zero, List.set_cons_succ])
  refine wpAnyH_take (i := 13) (v := ?_) rfl (by kernel_rfl) (by kernel_rfl) (by kernel_rfl) (fun _ _ _ h => h) (Or.inl ⟨by rfl, ?_⟩) (by assumption) ?_
  rotate_left
  · (intro w hSw; (try dsimp only at hSw); go_split_ands; go_simp; (try with_reducible rfl))
  (try simp only [Act.put, List.getElem_toArray, List.getElem_cons_zero, List.getElem_cons_succ, List.setIfInBounds_toArray, List.set_cons_zero, List.set_cons_succ])
  refine wpAnyH_done (by kernel_rfl) ?_ _
  go_wp2_with fail
  go_ret
  exact ⟨rfl, (by repeat (first | (with_reducible assumption) | (with_reducible exact Below.refl _ _) | (with_reducible refine below_drewN ?_ _) | (with_reducible refine Below.drew ?_) | (with_reducible refine Below.alloc ?_ (by first | omega | (simp <;> omega)) _)))⟩

theorem snWant_any (o g a b c x y z : Int) (hg : 0 ≤ g ∧ g ≤ 3) (p q n : ByteArray) (pre : Bool) (hp : p.size ≤ 2147483653) (hq : q.size ≤ 2147483653) (w : World) :
    Calls Tryd.prog 28 #[.agg (termC o g a b c p), .int .i64 6, .agg (plainC x y z q n), .bool pre] w (BoolPost (wantTilde pre q p x y z a b c (min 2 g)) w) := by
  unfold wantTilde
  cases pre with
  | true => exact snWant_p o g a b c x y z hg p q n hp hq w _ (by show _ = _; simp)
  | false =>
    cases h : q.toList.isEmpty with
    | true => exact snWant_e o g a b c x y z hg p q n hp hq w _ (by show _ = _; simp) (by simpa using h)
    | false => exact snWant_n o g a b c x y z hg p q n hp hq w _ rfl h

end Go.Proofs.YtdlpcfhhpjjjmaaDoor
