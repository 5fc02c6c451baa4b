/- semver.constraintNotEqual: no patch number given. -/
import Derived.Test.YtdlpcfhhpjjjmaaDoorConB
import Derived.Test.YtdlpcfhhpjjjmaaDoorPreRel
namespace Go.Proofs.YtdlpcfhhpjjjmaaDoor
open Go.RowKit
set_option linter.unusedVariables false
set_option linter.unusedSimpArgs false

set_option maxRecDepth 100000 in
set_option maxHeartbeats 16000000 in
theorem nq_pn_q1 (g j k : Nat) (x y z a b c : Int) (q n r p m o s : ByteArray) (dy md pd pre : Bool) (w : World) (hg : VerAt w g (verC x y z q n r)) (hj : VerAt w j (verC a b c p m o)) (hk : ConAt w k #[.pointer (some ⟨j, 0, none⟩), .string ⟨#[]⟩, .string s, .bool md, .bool dy, .bool pd]) (hq : q.size ≤ 2147483654) (hp : p.size ≤ 2147483654) (he : Hid (Errs w)) (R : Int) (HR : Hid (cmpI x y z q a b c p = R)) (hne : g ≠ j) (h1 : q.toList.isEmpty = false) (h2 : pre = true) (hd : dy = true) (hx : x = a) (hy : y = b) (hm : md = false) (hz : c ≠ z) (hpd : pd = true) (P : Int) (HP : Hid (preI q p = P)) (hP : P ≠ 0) :
    Calls Tryd.prog 106 #[.pointer (some ⟨g, 0, none⟩), .pointer (some ⟨k, 0, none⟩), .bool pre] w (HoldPost true w) := by
  subst hd
  subst hx
  subst hy
  subst hm
  subst hpd
  have hz2 : (c != z) = true := by simp; exact hz
  have hz3 : (c == z) = false := by simp; exact hz
  have hP2 : (P != 0) = true := by simp; exact hP
  have hP3 : (P == 0) = false := by simp; exact hP
  all_goals subst h2
  all_goals
    obtain ⟨c0, c1, c2, c3, c4, c5, d0, d1, d2, d3, d4, d5, e0, e1, e2, e3, e4, e5⟩ := cells18 hg hj hk (Below.refl w.heap.size w)
    have bn : Below w.heap.size w w := Below.refl _ _
    have nn : w.heap.size ≤ w.heap.size := Nat.le_refl _
    go_enter Tryd.func106, Tryd.ntmps106
    go_wp2_with (first | ((first | (go_at_call 92; refine (major_any _ _ _ _ _ _ _).mono ?_) | (go_at_call 93; refine (minor_any _ _ _ _ _ _ _).mono ?_) | (go_at_call 94; refine (patch_any _ _ _ _ _ _ _).mono ?_) | (go_at_call 95; refine (pre_any _ _ _ _ _ _ _).mono ?_)); rintro e w' ⟨rfl, hw⟩; replace bn : Below w.heap.size w w' := (by rw [hw]; exact (by repeat (first | assumption | exact Below.refl _ _ | refine below_drewN ?_ _ | refine Below.drew ?_ | refine Below.alloc ?_ (by first | omega | (simp <;> omega)) _))); clear hw; replace nn : w.heap.size ≤ w'.heap.size := bn.size; clear c0 c1 c2 c3 c4 c5 d0 d1 d2 d3 d4 d5 e0 e1 e2 e3 e4 e5; obtain ⟨c0, c1, c2, c3, c4, c5, d0, d1, d2, d3, d4, d5, e0, e1, e2, e3, e4, e5⟩ := cells18 hg hj hk bn))
    go_region_held3 (fun w' => w'.cell? ⟨g, 0, none⟩ = some (.int .u64 x) ∧ w'.cell? ⟨g, 1, none⟩ = some (.int .u64 y) ∧ w'.cell? ⟨g, 2, none⟩ = some (.int .u64 z) ∧ w'.cell? ⟨g, 3, none⟩ = some (.string q) ∧ w'.cell? ⟨g, 4, none⟩ = some (.string n) ∧ w'.cell? ⟨g, 5, none⟩ = some (.string r) ∧ w'.cell? ⟨j, 0, none⟩ = some (.int .u64 x) ∧ w'.cell? ⟨j, 1, none⟩ = some (.int .u64 y) ∧ w'.cell? ⟨j, 2, none⟩ = some (.int .u64 c) ∧ w'.cell? ⟨j, 3, none⟩ = some (.string p) ∧ w'.cell? ⟨j, 4, none⟩ = some (.string m) ∧ w'.cell? ⟨j, 5, none⟩ = some (.string o) ∧ w'.cell? ⟨k, 0, none⟩ = some (.pointer (some ⟨j, 0, none⟩)) ∧ w'.cell? ⟨k, 1, none⟩ = some (.string ⟨#[]⟩) ∧ w'.cell? ⟨k, 2, none⟩ = some (.string s) ∧ w'.cell? ⟨k, 3, none⟩ = some (.bool false) ∧ w'.cell? ⟨k, 4, none⟩ = some (.bool true) ∧ w'.cell? ⟨k, 5, none⟩ = some (.bool true)) (first | (refine ⟨?_, ?_, ?_, ?_, ?_, ?_, ?_, ?_, ?_, ?_, ?_, ?_, ?_, ?_, ?_, ?_, ?_, ?_⟩ <;> (repeat (first | assumption | (with_reducible refine keepD ?_) | (with_reducible refine keepN ?_) | (with_reducible refine keepV ?_)))) | go_keep)
        (first | ((first | (go_at_call 92; refine (major_any _ _ _ _ _ _ _).mono ?_) | (go_at_call 93; refine (minor_any _ _ _ _ _ _ _).mono ?_) | (go_at_call 94; refine (patch_any _ _ _ _ _ _ _).mono ?_) | (go_at_call 95; refine (pre_any _ _ _ _ _ _ _).mono ?_)); rintro e w' ⟨rfl, hw⟩; replace bn : Below w.heap.size w w' := (by rw [hw]; exact (by repeat (first | assumption | exact Below.refl _ _ | refine below_drewN ?_ _ | refine Below.drew ?_ | refine Below.alloc ?_ (by first | omega | (simp <;> omega)) _))); clear hw; replace nn : w.heap.size ≤ w'.heap.size := bn.size; clear c0 c1 c2 c3 c4 c5 d0 d1 d2 d3 d4 d5 e0 e1 e2 e3 e4 e5; obtain ⟨c0, c1, c2, c3, c4, c5, d0, d1, d2, d3, d4, d5, e0, e1, e2, e3, e4, e5⟩ := cells18 hg hj hk bn))
    go_wp2_with (first | ((first | (go_at_call 92; refine (major_any _ _ _ _ _ _ _).mono ?_) | (go_at_call 93; refine (minor_any _ _ _ _ _ _ _).mono ?_) | (go_at_call 94; refine (patch_any _ _ _ _ _ _ _).mono ?_) | (go_at_call 95; refine (pre_any _ _ _ _ _ _ _).mono ?_)); rintro e w' ⟨rfl, hw⟩; replace bn : Below w.heap.size w w' := (by rw [hw]; exact (by repeat (first | assumption | exact Below.refl _ _ | refine below_drewN ?_ _ | refine Below.drew ?_ | refine Below.alloc ?_ (by first | omega | (simp <;> omega)) _))); clear hw; replace nn : w.heap.size ≤ w'.heap.size := bn.size; clear c0 c1 c2 c3 c4 c5 d0 d1 d2 d3 d4 d5 e0 e1 e2 e3 e4 e5; obtain ⟨c0, c1, c2, c3, c4, c5, d0, d1, d2, d3, d4, d5, e0, e1, e2, e3, e4, e5⟩ := cells18 hg hj hk bn))
    refine wp_region_held_drew (S := (fun w' => w'.cell? ⟨g, 0, none⟩ = some (.int .u64 x) ∧ w'.cell? ⟨g, 1, none⟩ = some (.int .u64 y) ∧ w'.cell? ⟨g, 2, none⟩ = some (.int .u64 z) ∧ w'.cell? ⟨g, 3, none⟩ = some (.string q) ∧ w'.cell? ⟨g, 4, none⟩ = some (.string n) ∧ w'.cell? ⟨g, 5, none⟩ = some (.string r) ∧ w'.cell? ⟨j, 0, none⟩ = some (.int .u64 x) ∧ w'.cell? ⟨j, 1, none⟩ = some (.int .u64 y) ∧ w'.cell? ⟨j, 2, none⟩ = some (.int .u64 c) ∧ w'.cell? ⟨j, 3, none⟩ = some (.string p) ∧ w'.cell? ⟨j, 4, none⟩ = some (.string m) ∧ w'.cell? ⟨j, 5, none⟩ = some (.string o) ∧ w'.cell? ⟨k, 0, none⟩ = some (.pointer (some ⟨j, 0, none⟩)) ∧ w'.cell? ⟨k, 1, none⟩ = some (.string ⟨#[]⟩) ∧ w'.cell? ⟨k, 2, none⟩ = some (.string s) ∧ w'.cell? ⟨k, 3, none⟩ = some (.bool false) ∧ w'.cell? ⟨k, 4, none⟩ = some (.bool true) ∧ w'.cell? ⟨k, 5, none⟩ = some (.bool true))) (by kernel_rfl) ?_ (fun hHeld => ?_)
    · (refine ⟨?_, ?_, ?_, ?_, ?_, ?_, ?_, ?_, ?_, ?_, ?_, ?_, ?_, ?_, ?_, ?_, ?_, ?_⟩ <;> (repeat (first | assumption | (with_reducible refine keepD ?_) | (with_reducible refine keepN ?_) | (with_reducible refine keepV ?_))))
    refine wpAnyH_take (i := 0) (v := ?_) rfl (by kernel_rfl) (by kernel_rfl) (by kernel_rfl) (fun _ _ _ h => h) (Or.inl ⟨by rfl, ?_⟩) (by assumption) ?_
    rotate_left
    · (intro w hSw; (try dsimp only at hSw); go_split_ands; go_simp; (try with_reducible rfl))
    (try simp only [Act.put, List.getElem_toArray, List.getElem_cons_zero, List.getElem_cons_succ, List.setIfInBounds_toArray, List.set_cons_zero, List.set_cons_succ])
    refine wpAnyH_take (i := 1) (v := ?_) rfl (by kernel_rfl) (by kernel_rfl) (by kernel_rfl) (fun _ _ _ h => h) (Or.inl ⟨by rfl, ?_⟩) (by assumption) ?_
    rotate_left
    · (intro w hSw; (try dsimp only at hSw); go_split_ands; go_simp; (try with_reducible rfl))
    (try simp only [Act.put, List.getElem_toArray, List.getElem_cons_zero, List.getElem_cons_succ, List.setIfInBounds_toArray, List.set_cons_zero, List.set_cons_succ])
    refine wpAnyH_take (i := 2) (v := ?_) rfl (by kernel_rfl) (by kernel_rfl) (by kernel_rfl) (fun _ _ _ h => h) (Or.inl ⟨by rfl, ?_⟩) (by assumption) ?_
    rotate_left
    · (intro w hSw; (try dsimp only at hSw); go_split_ands; go_simp; (try with_reducible rfl))
    (try simp only [Act.put, List.getElem_toArray, List.getElem_cons_zero, List.getElem_cons_succ, List.setIfInBounds_toArray, List.set_cons_zero, List.set_cons_succ])
    refine wpAnyH_take (i := 3) (v := ?_) rfl (by kernel_rfl) (by kernel_rfl) (by kernel_rfl) (fun _ _ _ h => h) (Or.inl ⟨by rfl, ?_⟩) (by assumption) ?_
    rotate_left
    · (intro w hSw; (try dsimp only at hSw); go_split_ands; go_simp; (try with_reducible rfl))
    (try simp only [Act.put, List.getElem_toArray, List.getElem_cons_zero, List.getElem_cons_succ, List.setIfInBounds_toArray, List.set_cons_zero, List.set_cons_succ])
    refine wpAnyH_take (i := 4) (v := ?_) rfl (by kernel_rfl) (by kernel_rfl) (by kernel_rfl) (fun _ _ _ h => h) (Or.inl ⟨by rfl, ?_⟩) (by assumption) ?_
    rotate_left
    · (intro w hSw; (try dsimp only at hSw); go_split_ands; go_simp; (try with_reducible rfl))
    (try simp only [Act.put, List.getElem_toArray, List.getElem_cons_zero, List.getElem_cons_succ, List.setIfInBounds_toArray, List.set_cons_zero, List.set_cons_succ])
    refine wpAnyH_take (i := 5) (v := ?_) rfl (by kernel_rfl) (by kernel_rfl) (by kernel_rfl) (fun _ _ _ h => h) (Or.inl ⟨by rfl, ?_⟩) (by assumption) ?_
    rotate_left
    · (intro w hSw; (try dsimp only at hSw); go_split_ands; go_simp; (try with_reducible rfl))
    (try simp only [Act.put, List.getElem_toArray, List.getElem_cons_zero, List.getElem_cons_succ, List.setIfInBounds_toArray, List.set_cons_zero, List.set_cons_succ])
    refine wpAnyH_take (i := 7) (v := ?_) rfl (by kernel_rfl) (by kernel_rfl) (by kernel_rfl) (fun _ _ _ h => h) (Or.inl ⟨by rfl, ?_⟩) (by assumption) ?_
    rotate_left
    · (intro w hSw; (try dsimp only at hSw); go_split_ands; go_simp; (try with_reducible rfl))
    (try simp only [Act.put, List.getElem_toArray, List.getElem_cons_zero, List.getElem_cons_succ, List.setIfInBounds_toArray, List.set_cons_zero, List.set_cons_succ])
    refine wpAnyH_take (i := 8) (v := ?_) rfl (by kernel_rfl) (by kernel_rfl) (by kernel_rfl) (fun _ _ _ h => h) (Or.inl ⟨by rfl, ?_⟩) (by assumption) ?_
    rotate_left
    · (intro w hSw; (try dsimp only at hSw); go_split_ands; go_simp; (try with_reducible rfl))
    (try simp only [Act.put, List.getElem_toArray, List.getElem_cons_zero, List.getElem_cons_succ, List.setIfInBounds_toArray, List.set_cons_zero, List.set_cons_succ])
    refine wpAnyH_take (i := 9) (v := ?_) rfl (by kernel_rfl) (by kernel_rfl) (by kernel_rfl) (fun _ _ _ h => h) (Or.inl ⟨by rfl, ?_⟩) (by assumption) ?_
    rotate_left
    · (intro w hSw; (try dsimp only at hSw); go_split_ands; go_simp; (try with_reducible rfl))
    (try simp only [Act.put, List.getElem_toArray, List.getElem_cons_zero, List.getElem_cons_succ, List.setIfInBounds_toArray, List.set_cons_zero, List.set_cons_succ])
    refine wpAnyH_ready (rs := [6]) (by kernel_rfl) (by simp) ?_
    refine AllReadyH.cons rfl (fun K hK => ?_) AllReadyH.nil
    go_simp
    (first | ((first | (go_at_call 92; refine (major_any _ _ _ _ _ _ _).mono ?_) | (go_at_call 93; refine (minor_any _ _ _ _ _ _ _).mono ?_) | (go_at_call 94; refine (patch_any _ _ _ _ _ _ _).mono ?_) | (go_at_call 95; refine (pre_any _ _ _ _ _ _ _).mono ?_)); rintro e w' ⟨rfl, hw⟩; replace bn : Below w.heap.size w w' := (by rw [hw]; exact (by repeat (first | assumption | exact Below.refl _ _ | refine below_drewN ?_ _ | refine Below.drew ?_ | refine Below.alloc ?_ (by first | omega | (simp <;> omega)) _))); clear hw; replace nn : w.heap.size ≤ w'.heap.size := bn.size; clear c0 c1 c2 c3 c4 c5 d0 d1 d2 d3 d4 d5 e0 e1 e2 e3 e4 e5; obtain ⟨c0, c1, c2, c3, c4, c5, d0, d1, d2, d3, d4, d5, e0, e1, e2, e3, e4, e5⟩ := cells18 hg hj hk bn))
    refine hK.out _ _ ?_ (fun hHeld => ?_)
    · (refine ⟨?_, ?_, ?_, ?_, ?_, ?_, ?_, ?_, ?_, ?_, ?_, ?_, ?_, ?_, ?_, ?_, ?_, ?_⟩ <;> (repeat (first | assumption | (with_reducible refine keepD ?_) | (with_reducible refine keepN ?_) | (with_reducible refine keepV ?_))))
    clear hK K
    (try simp only [Act.put, List.getElem_toArray, List.getElem_cons_zero, List.getElem_cons_succ, List.setIfInBounds_toArray, List.set_cons_zero, List.set_cons_succ])
    refine wpAnyH_ready (rs := [10]) (by kernel_rfl) (by simp) ?_
    refine AllReadyH.cons rfl (fun K hK => ?_) AllReadyH.nil
    go_simp
    (first | ((first | (go_at_call 92; refine (major_any _ _ _ _ _ _ _).mono ?_) | (go_at_call 93; refine (minor_any _ _ _ _ _ _ _).mono ?_) | (go_at_call 94; refine (patch_any _ _ _ _ _ _ _).mono ?_) | (go_at_call 95; refine (pre_any _ _ _ _ _ _ _).mono ?_)); rintro e w' ⟨rfl, hw⟩; replace bn : Below w.heap.size w w' := (by rw [hw]; exact (by repeat (first | assumption | exact Below.refl _ _ | refine below_drewN ?_ _ | refine Below.drew ?_ | refine Below.alloc ?_ (by first | omega | (simp <;> omega)) _))); clear hw; replace nn : w.heap.size ≤ w'.heap.size := bn.size; clear c0 c1 c2 c3 c4 c5 d0 d1 d2 d3 d4 d5 e0 e1 e2 e3 e4 e5; obtain ⟨c0, c1, c2, c3, c4, c5, d0, d1, d2, d3, d4, d5, e0, e1, e2, e3, e4, e5⟩ := cells18 hg hj hk bn))
    refine hK.out _ _ ?_ (fun hHeld => ?_)
    · (refine ⟨?_, ?_, ?_, ?_, ?_, ?_, ?_, ?_, ?_, ?_, ?_, ?_, ?_, ?_, ?_, ?_, ?_, ?_⟩ <;> (repeat (first | assumption | (with_reducible refine keepD ?_) | (with_reducible refine keepN ?_) | (with_reducible refine keepV ?_))))
    clear hK K
    (try simp only [Act.put, List.getElem_toArray, List.getElem_cons_zero, List.getElem_cons_succ, List.setIfInBounds_toArray, List.set_cons_zero, List.set_cons_succ])
    refine wpAnyH_take (i := 11) (v := ?_) rfl (by kernel_rfl) (by kernel_rfl) (by kernel_rfl) (fun _ _ _ h => h) (Or.inl ⟨by rfl, ?_⟩) (by assumption) ?_
    rotate_left
    · (intro w hSw; (try dsimp only at hSw); go_split_ands; go_simp; (try with_reducible rfl))
    (try simp only [Act.put, List.getElem_toArray, List.getElem_cons_zero, List.getElem_cons_succ, List.setIfInBounds_toArray, List.set_cons_zero, List.set_cons_succ])
    refine wpAnyH_take (i := 12) (v := ?_) rfl (by kernel_rfl) (by kernel_rfl) (by kernel_rfl) (fun _ _ _ h => h) (Or.inl ⟨by rfl, ?_⟩) (by assumption) ?_
    rotate_left
    · (intro w hSw; (try dsimp only at hSw); go_split_ands; go_simp; (try with_reducible rfl))
    (try simp only [Act.put, List.getElem_toArray, List.getElem_cons_zero, List.getElem_cons_succ, List.setIfInBounds_toArray, List.set_cons_zero, List.set_cons_succ])
    refine wpAnyH_take (i := 13) (v := undef) rfl (by kernel_rfl) (by kernel_rfl) (by kernel_rfl) (fun _ _ _ h => h) (Or.inr ⟨by rfl, rfl⟩) (by assumption) ?_
    (try simp only [Act.put, List.getElem_toArray, List.getElem_cons_zero, List.getElem_cons_succ, List.setIfInBounds_toArray, List.set_cons_zero, List.set_cons_succ])
    refine wpAnyH_take (i := 14) (v := undef) rfl (by kernel_rfl) (by kernel_rfl) (by kernel_rfl) (fun _ _ _ h => h) (Or.inr ⟨by rfl, rfl⟩) (by assumption) ?_
    (try simp only [Act.put, List.getElem_toArray, List.getElem_cons_zero, List.getElem_cons_succ, List.setIfInBounds_toArray, List.set_cons_zero, List.set_cons_succ])
    refine wpAnyH_take (i := 15) (v := undef) rfl (by kernel_rfl) (by kernel_rfl) (by kernel_rfl) (fun _ _ _ h => h) (Or.inr ⟨by rfl, rfl⟩) (by assumption) ?_
    (try simp only [Act.put, List.getElem_toArray, List.getElem_cons_zero, List.getElem_cons_succ, List.setIfInBounds_toArray, List.set_cons_zero, List.set_cons_succ])
    refine wpAnyH_take (i := 16) (v := undef) rfl (by kernel_rfl) (by kernel_rfl) (by kernel_rfl) (fun _ _ _ h => h) (Or.inr ⟨by rfl, rfl⟩) (by assumption) ?_
    (try simp only [Act.put, List.getElem_toArray, List.getElem_cons_zero, List.getElem_cons_succ, List.setIfInBounds_toArray, List.set_cons_zero, List.set_cons_succ])
    refine wpAnyH_take (i := 17) (v := undef) rfl (by kernel_rfl) (by kernel_rfl) (by kernel_rfl) (fun _ _ _ h => h) (Or.inr ⟨by rfl, rfl⟩) (by assumption) ?_
    (try simp only [Act.put, List.getElem_toArray, List.getElem_cons_zero, List.getElem_cons_succ, List.setIfInBounds_toArray, List.set_cons_zero, List.set_cons_succ])
    refine wpAnyH_take (i := 18) (v := ?_) rfl (by kernel_rfl) (by kernel_rfl) (by kernel_rfl) (fun _ _ _ h => h) (Or.inl ⟨by rfl, ?_⟩) (by assumption) ?_
    rotate_left
    · (intro w hSw; (try dsimp only at hSw); go_split_ands; go_simp; (try with_reducible rfl))
    (try simp only [Act.put, List.getElem_toArray, List.getElem_cons_zero, List.getElem_cons_succ, List.setIfInBounds_toArray, List.set_cons_zero, List.set_cons_succ])
    refine wpAnyH_done (by kernel_rfl) ?_ _
    go_wp2_with (first | ((first | (go_at_call 92; refine (major_any _ _ _ _ _ _ _).mono ?_) | (go_at_call 93; refine (minor_any _ _ _ _ _ _ _).mono ?_) | (go_at_call 94; refine (patch_any _ _ _ _ _ _ _).mono ?_) | (go_at_call 95; refine (pre_any _ _ _ _ _ _ _).mono ?_)); rintro e w' ⟨rfl, hw⟩; replace bn : Below w.heap.size w w' := (by rw [hw]; exact (by repeat (first | assumption | exact Below.refl _ _ | refine below_drewN ?_ _ | refine Below.drew ?_ | refine Below.alloc ?_ (by first | omega | (simp <;> omega)) _))); clear hw; replace nn : w.heap.size ≤ w'.heap.size := bn.size; clear c0 c1 c2 c3 c4 c5 d0 d1 d2 d3 d4 d5 e0 e1 e2 e3 e4 e5; obtain ⟨c0, c1, c2, c3, c4, c5, d0, d1, d2, d3, d4, d5, e0, e1, e2, e3, e4, e5⟩ := cells18 hg hj hk bn))
    go_region_held3 (fun w' => w'.cell? ⟨g, 0, none⟩ = some (.int .u64 x) ∧ w'.cell? ⟨g, 1, none⟩ = some (.int .u64 y) ∧ w'.cell? ⟨g, 2, none⟩ = some (.int .u64 z) ∧ w'.cell? ⟨g, 3, none⟩ = some (.string q) ∧ w'.cell? ⟨g, 4, none⟩ = some (.string n) ∧ w'.cell? ⟨g, 5, none⟩ = some (.string r) ∧ w'.cell? ⟨j, 0, none⟩ = some (.int .u64 x) ∧ w'.cell? ⟨j, 1, none⟩ = some (.int .u64 y) ∧ w'.cell? ⟨j, 2, none⟩ = some (.int .u64 c) ∧ w'.cell? ⟨j, 3, none⟩ = some (.string p) ∧ w'.cell? ⟨j, 4, none⟩ = some (.string m) ∧ w'.cell? ⟨j, 5, none⟩ = some (.string o) ∧ w'.cell? ⟨k, 0, none⟩ = some (.pointer (some ⟨j, 0, none⟩)) ∧ w'.cell? ⟨k, 1, none⟩ = some (.string ⟨#[]⟩) ∧ w'.cell? ⟨k, 2, none⟩ = some (.string s) ∧ w'.cell? ⟨k, 3, none⟩ = some (.bool false) ∧ w'.cell? ⟨k, 4, none⟩ = some (.bool true) ∧ w'.cell? ⟨k, 5, none⟩ = some (.bool true)) (first | (refine ⟨?_, ?_, ?_, ?_, ?_, ?_, ?_, ?_, ?_, ?_, ?_, ?_, ?_, ?_, ?_, ?_, ?_, ?_⟩ <;> (repeat (first | assumption | (with_reducible refine keepD ?_) | (with_reducible refine keepN ?_) | (with_reducible refine keepV ?_)))) | go_keep)
        (first | ((first | (go_at_call 92; refine (major_any _ _ _ _ _ _ _).mono ?_) | (go_at_call 93; refine (minor_any _ _ _ _ _ _ _).mono ?_) | (go_at_call 94; refine (patch_any _ _ _ _ _ _ _).mono ?_) | (go_at_call 95; refine (pre_any _ _ _ _ _ _ _).mono ?_)); rintro e w' ⟨rfl, hw⟩; replace bn : Below w.heap.size w w' := (by rw [hw]; exact (by repeat (first | assumption | exact Below.refl _ _ | refine below_drewN ?_ _ | refine Below.drew ?_ | refine Below.alloc ?_ (by first | omega | (simp <;> omega)) _))); clear hw; replace nn : w.heap.size ≤ w'.heap.size := bn.size; clear c0 c1 c2 c3 c4 c5 d0 d1 d2 d3 d4 d5 e0 e1 e2 e3 e4 e5; obtain ⟨c0, c1, c2, c3, c4, c5, d0, d1, d2, d3, d4, d5, e0, e1, e2, e3, e4, e5⟩ := cells18 hg hj hk bn))
    go_wp2_with (first | ((first | (go_at_call 92; refine (major_any _ _ _ _ _ _ _).mono ?_) | (go_at_call 93; refine (minor_any _ _ _ _ _ _ _).mono ?_) | (go_at_call 94; refine (patch_any _ _ _ _ _ _ _).mono ?_) | (go_at_call 95; refine (pre_any _ _ _ _ _ _ _).mono ?_)); rintro e w' ⟨rfl, hw⟩; replace bn : Below w.heap.size w w' := (by rw [hw]; exact (by repeat (first | assumption | exact Below.refl _ _ | refine below_drewN ?_ _ | refine Below.drew ?_ | refine Below.alloc ?_ (by first | omega | (simp <;> omega)) _))); clear hw; replace nn : w.heap.size ≤ w'.heap.size := bn.size; clear c0 c1 c2 c3 c4 c5 d0 d1 d2 d3 d4 d5 e0 e1 e2 e3 e4 e5; obtain ⟨c0, c1, c2, c3, c4, c5, d0, d1, d2, d3, d4, d5, e0, e1, e2, e3, e4, e5⟩ := cells18 hg hj hk bn))
    go_region_held3 (fun w' => w'.cell? ⟨g, 0, none⟩ = some (.int .u64 x) ∧ w'.cell? ⟨g, 1, none⟩ = some (.int .u64 y) ∧ w'.cell? ⟨g, 2, none⟩ = some (.int .u64 z) ∧ w'.cell? ⟨g, 3, none⟩ = some (.string q) ∧ w'.cell? ⟨g, 4, none⟩ = some (.string n) ∧ w'.cell? ⟨g, 5, none⟩ = some (.string r) ∧ w'.cell? ⟨j, 0, none⟩ = some (.int .u64 x) ∧ w'.cell? ⟨j, 1, none⟩ = some (.int .u64 y) ∧ w'.cell? ⟨j, 2, none⟩ = some (.int .u64 c) ∧ w'.cell? ⟨j, 3, none⟩ = some (.string p) ∧ w'.cell? ⟨j, 4, none⟩ = some (.string m) ∧ w'.cell? ⟨j, 5, none⟩ = some (.string o) ∧ w'.cell? ⟨k, 0, none⟩ = some (.pointer (some ⟨j, 0, none⟩)) ∧ w'.cell? ⟨k, 1, none⟩ = some (.string ⟨#[]⟩) ∧ w'.cell? ⟨k, 2, none⟩ = some (.string s) ∧ w'.cell? ⟨k, 3, none⟩ = some (.bool false) ∧ w'.cell? ⟨k, 4, none⟩ = some (.bool true) ∧ w'.cell? ⟨k, 5, none⟩ = some (.bool true)) (first | (refine ⟨?_, ?_, ?_, ?_, ?_, ?_, ?_, ?_, ?_, ?_, ?_, ?_, ?_, ?_, ?_, ?_, ?_, ?_⟩ <;> (repeat (first | assumption | (with_reducible refine keepD ?_) | (with_reducible refine keepN ?_) | (with_reducible refine keepV ?_)))) | go_keep)
        (first | ((first | (go_at_call 92; refine (major_any _ _ _ _ _ _ _).mono ?_) | (go_at_call 93; refine (minor_any _ _ _ _ _ _ _).mono ?_) | (go_at_call 94; refine (patch_any _ _ _ _ _ _ _).mono ?_) | (go_at_call 95; refine (pre_any _ _ _ _ _ _ _).mono ?_)); rintro e w' ⟨rfl, hw⟩; replace bn : Below w.heap.size w w' := (by rw [hw]; exact (by repeat (first | assumption | exact Below.refl _ _ | refine below_drewN ?_ _ | refine Below.drew ?_ | refine Below.alloc ?_ (by first | omega | (simp <;> omega)) _))); clear hw; replace nn : w.heap.size ≤ w'.heap.size := bn.size; clear c0 c1 c2 c3 c4 c5 d0 d1 d2 d3 d4 d5 e0 e1 e2 e3 e4 e5; obtain ⟨c0, c1, c2, c3, c4, c5, d0, d1, d2, d3, d4, d5, e0, e1, e2, e3, e4, e5⟩ := cells18 hg hj hk bn) | (go_at_call 87; refine (preRel_loop q p hq hp _ (he.below bn)).mono ?_; rintro e w' ⟨rfl, hw⟩; rw [HP.out]; replace bn : Below w.heap.size w w' := bn.trans (hw.mono bn.size); clear hw; replace nn : w.heap.size ≤ w'.heap.size := bn.size; clear c0 c1 c2 c3 c4 c5 d0 d1 d2 d3 d4 d5 e0 e1 e2 e3 e4 e5; obtain ⟨c0, c1, c2, c3, c4, c5, d0, d1, d2, d3, d4, d5, e0, e1, e2, e3, e4, e5⟩ := cells18 hg hj hk bn))
    go_wp2_with (first | ((first | (go_at_call 92; refine (major_any _ _ _ _ _ _ _).mono ?_) | (go_at_call 93; refine (minor_any _ _ _ _ _ _ _).mono ?_) | (go_at_call 94; refine (patch_any _ _ _ _ _ _ _).mono ?_) | (go_at_call 95; refine (pre_any _ _ _ _ _ _ _).mono ?_)); rintro e w' ⟨rfl, hw⟩; replace bn : Below w.heap.size w w' := (by rw [hw]; exact (by repeat (first | assumption | exact Below.refl _ _ | refine below_drewN ?_ _ | refine Below.drew ?_ | refine Below.alloc ?_ (by first | omega | (simp <;> omega)) _))); clear hw; replace nn : w.heap.size ≤ w'.heap.size := bn.size; clear c0 c1 c2 c3 c4 c5 d0 d1 d2 d3 d4 d5 e0 e1 e2 e3 e4 e5; obtain ⟨c0, c1, c2, c3, c4, c5, d0, d1, d2, d3, d4, d5, e0, e1, e2, e3, e4, e5⟩ := cells18 hg hj hk bn))
    go_ret2
    exact ⟨_, rfl, bn⟩

set_option maxRecDepth 100000 in
set_option maxHeartbeats 16000000 in
theorem nq_pn_q0 (g j k : Nat) (x y z a b c : Int) (q n r p m o s : ByteArray) (dy md pd pre : Bool) (w : World) (hg : VerAt w g (verC x y z q n r)) (hj : VerAt w j (verC a b c p m o)) (hk : ConAt w k #[.pointer (some ⟨j, 0, none⟩), .string ⟨#[]⟩, .string s, .bool md, .bool dy, .bool pd]) (hq : q.size ≤ 2147483654) (hp : p.size ≤ 2147483654) (he : Hid (Errs w)) (R : Int) (HR : Hid (cmpI x y z q a b c p = R)) (hne : g ≠ j) (h1 : q.toList.isEmpty = false) (h2 : pre = true) (hd : dy = true) (hx : x = a) (hy : y = b) (hm : md = false) (hz : c ≠ z) (hpd : pd = true) (P : Int) (HP : Hid (preI q p = P)) (hP : P = 0) :
    Calls Tryd.prog 106 #[.pointer (some ⟨g, 0, none⟩), .pointer (some ⟨k, 0, none⟩), .bool pre] w (HoldPost false w) := by
  subst hd
  subst hx
  subst hy
  subst hm
  subst hpd
  have hz2 : (c != z) = true := by simp; exact hz
  have hz3 : (c == z) = false := by simp; exact hz
  have hP2 : (P != 0) = false := by simp; exact hP
  have hP3 : (P == 0) = true := by simp; exact hP
  all_goals subst h2
  all_goals
    obtain ⟨c0, c1, c2, c3, c4, c5, d0, d1, d2, d3, d4, d5, e0, e1, e2, e3, e4, e5⟩ := cells18 hg hj hk (Below.refl w.heap.size w)
    have bn : Below w.heap.size w w := Below.refl _ _
    have nn : w.heap.size ≤ w.heap.size := Nat.le_refl _
    go_enter Tryd.func106, Tryd.ntmps106
    go_wp2_with (first | ((first | (go_at_call 92; refine (major_any _ _ _ _ _ _ _).mono ?_) | (go_at_call 93; refine (minor_any _ _ _ _ _ _ _).mono ?_) | (go_at_call 94; refine (patch_any _ _ _ _ _ _ _).mono ?_) | (go_at_call 95; refine (pre_any _ _ _ _ _ _ _).mono ?_)); rintro e w' ⟨rfl, hw⟩; replace bn : Below w.heap.size w w' := (by rw [hw]; exact (by repeat (first | assumption | exact Below.refl _ _ | refine below_drewN ?_ _ | refine Below.drew ?_ | refine Below.alloc ?_ (by first | omega | (simp <;> omega)) _))); clear hw; replace nn : w.heap.size ≤ w'.heap.size := bn.size; clear c0 c1 c2 c3 c4 c5 d0 d1 d2 d3 d4 d5 e0 e1 e2 e3 e4 e5; obtain ⟨c0, c1, c2, c3, c4, c5, d0, d1, d2, d3, d4, d5, e0, e1, e2, e3, e4, e5⟩ := cells18 hg hj hk bn))
    go_region_held3 (fun w' => w'.cell? ⟨g, 0, none⟩ = some (.int .u64 x) ∧ w'.cell? ⟨g, 1, none⟩ = some (.int .u64 y) ∧ w'.cell? ⟨g, 2, none⟩ = some (.int .u64 z) ∧ w'.cell? ⟨g, 3, none⟩ = some (.string q) ∧ w'.cell? ⟨g, 4, none⟩ = some (.string n) ∧ w'.cell? ⟨g, 5, none⟩ = some (.string r) ∧ w'.cell? ⟨j, 0, none⟩ = some (.int .u64 x) ∧ w'.cell? ⟨j, 1, none⟩ = some (.int .u64 y) ∧ w'.cell? ⟨j, 2, none⟩ = some (.int .u64 c) ∧ w'.cell? ⟨j, 3, none⟩ = some (.string p) ∧ w'.cell? ⟨j, 4, none⟩ = some (.string m) ∧ w'.cell? ⟨j, 5, none⟩ = some (.string o) ∧ w'.cell? ⟨k, 0, none⟩ = some (.pointer (some ⟨j, 0, none⟩)) ∧ w'.cell? ⟨k, 1, none⟩ = some (.string ⟨#[]⟩) ∧ w'.cell? ⟨k, 2, none⟩ = some (.string s) ∧ w'.cell? ⟨k, 3, none⟩ = some (.bool false) ∧ w'.cell? ⟨k, 4, none⟩ = some (.bool true) ∧ w'.cell? ⟨k, 5, none⟩ = some (.bool true)) (first | (refine ⟨?_, ?_, ?_, ?_, ?_, ?_, ?_, ?_, ?_, ?_, ?_, ?_, ?_, ?_, ?_, ?_, ?_, ?_⟩ <;> (repeat (first | assumption | (with_reducible refine keepD ?_) | (with_reducible refine keepN ?_) | (with_reducible refine keepV ?_)))) | go_keep)
        (first | ((first | (go_at_call 92; refine (major_any _ _ _ _ _ _ _).mono ?_) | (go_at_call 93; refine (minor_any _ _ _ _ _ _ _).mono ?_) | (go_at_call 94; refine (patch_any _ _ _ _ _ _ _).mono ?_) | (go_at_call 95; refine (pre_any _ _ _ _ _ _ _).mono ?_)); rintro e w' ⟨rfl, hw⟩; replace bn : Below w.heap.size w w' := (by rw [hw]; exact (by repeat (first | assumption | exact Below.refl _ _ | refine below_drewN ?_ _ | refine Below.drew ?_ | refine Below.alloc ?_ (by first | omega | (simp <;> omega)) _))); clear hw; replace nn : w.heap.size ≤ w'.heap.size := bn.size; clear c0 c1 c2 c3 c4 c5 d0 d1 d2 d3 d4 d5 e0 e1 e2 e3 e4 e5; obtain ⟨c0, c1, c2, c3, c4, c5, d0, d1, d2, d3, d4, d5, e0, e1, e2, e3, e4, e5⟩ := cells18 hg hj hk bn))
    go_wp2_with (first | ((first | (go_at_call 92; refine (major_any _ _ _ _ _ _ _).mono ?_) | (go_at_call 93; refine (minor_any _ _ _ _ _ _ _).mono ?_) | (go_at_call 94; refine (patch_any _ _ _ _ _ _ _).mono ?_) | (go_at_call 95; refine (pre_any _ _ _ _ _ _ _).mono ?_)); rintro e w' ⟨rfl, hw⟩; replace bn : Below w.heap.size w w' := (by rw [hw]; exact (by repeat (first | assumption | exact Below.refl _ _ | refine below_drewN ?_ _ | refine Below.drew ?_ | refine Below.alloc ?_ (by first | omega | (simp <;> omega)) _))); clear hw; replace nn : w.heap.size ≤ w'.heap.size := bn.size; clear c0 c1 c2 c3 c4 c5 d0 d1 d2 d3 d4 d5 e0 e1 e2 e3 e4 e5; obtain ⟨c0, c1, c2, c3, c4, c5, d0, d1, d2, d3, d4, d5, e0, e1, e2, e3, e4, e5⟩ := cells18 hg hj hk bn))
    refine wp_region_held_drew (S := (fun w' => w'.cell? ⟨g, 0, none⟩ = some (.int .u64 x) ∧ w'.cell? ⟨g, 1, none⟩ = some (.int .u64 y) ∧ w'.cell? ⟨g, 2, none⟩ = some (.int .u64 z) ∧ w'.cell? ⟨g, 3, none⟩ = some (.string q) ∧ w'.cell? ⟨g, 4, none⟩ = some (.string n) ∧ w'.cell? ⟨g, 5, none⟩ = some (.string r) ∧ w'.cell? ⟨j, 0, none⟩ = some (.int .u64 x) ∧ w'.cell? ⟨j, 1, none⟩ = some (.int .u64 y) ∧ w'.cell? ⟨j, 2, none⟩ = some (.int .u64 c) ∧ w'.cell? ⟨j, 3, none⟩ = some (.string p) ∧ w'.cell? ⟨j, 4, none⟩ = some (.string m) ∧ w'.cell? ⟨j, 5, none⟩ = some (.string o) ∧ w'.cell? ⟨k, 0, none⟩ = some (.pointer (some ⟨j, 0, none⟩)) ∧ w'.cell? ⟨k, 1, none⟩ = some (.string ⟨#[]⟩) ∧ w'.cell? ⟨k, 2, none⟩ = some (.string s) ∧ w'.cell? ⟨k, 3, none⟩ = some (.bool false) ∧ w'.cell? ⟨k, 4, none⟩ = some (.bool true) ∧ w'.cell? ⟨k, 5, none⟩ = some (.bool true))) (by kernel_rfl) ?_ (fun hHeld => ?_)
    · (refine ⟨?_, ?_, ?_, ?_, ?_, ?_, ?_, ?_, ?_, ?_, ?_, ?_, ?_, ?_, ?_, ?_, ?_, ?_⟩ <;> (repeat (first | assumption | (with_reducible refine keepD ?_) | (with_reducible refine keepN ?_) | (with_reducible refine keepV ?_))))
    refine wpAnyH_take (i := 0) (v := ?_) rfl (by kernel_rfl) (by kernel_rfl) (by kernel_rfl) (fun _ _ _ h => h) (Or.inl ⟨by rfl, ?_⟩) (by assumption) ?_
    rotate_left
    · (intro w hSw; (try dsimp only at hSw); go_split_ands; go_simp; (try with_reducible rfl))
    (try simp only [Act.put, List.getElem_toArray, List.getElem_cons_zero, List.getElem_cons_succ, List.setIfInBounds_toArray, List.set_cons_zero, List.set_cons_succ])
    refine wpAnyH_take (i := 1) (v := ?_) rfl (by kernel_rfl) (by kernel_rfl) (by kernel_rfl) (fun _ _ _ h => h) (Or.inl ⟨by rfl, ?_⟩) (by assumption) ?_
    rotate_left
    · (intro w hSw; (try dsimp only at hSw); go_split_ands; go_simp; (try with_reducible rfl))
    (try simp only [Act.put, List.getElem_toArray, List.getElem_cons_zero, List.getElem_cons_succ, List.setIfInBounds_toArray, List.set_cons_zero, List.set_cons_succ])
    refine wpAnyH_take (i := 2) (v := ?_) rfl (by kernel_rfl) (by kernel_rfl) (by kernel_rfl) (fun _ _ _ h => h) (Or.inl ⟨by rfl, ?_⟩) (by assumption) ?_
    rotate_left
    · (intro w hSw; (try dsimp only at hSw); go_split_ands; go_simp; (try with_reducible rfl))
    (try simp only [Act.put, List.getElem_toArray, List.getElem_cons_zero, List.getElem_cons_succ, List.setIfInBounds_toArray, List.set_cons_zero, List.set_cons_succ])
    refine wpAnyH_take (i := 3) (v := ?_) rfl (by kernel_rfl) (by kernel_rfl) (by kernel_rfl) (fun _ _ _ h => h) (Or.inl ⟨by rfl, ?_⟩) (by assumption) ?_
    rotate_left
    · (intro w hSw; (try dsimp only at hSw); go_split_ands; go_simp; (try with_reducible rfl))
    (try simp only [Act.put, List.getElem_toArray, List.getElem_cons_zero, List.getElem_cons_succ, List.setIfInBounds_toArray, List.set_cons_zero, List.set_cons_succ])
    refine wpAnyH_take (i := 4) (v := ?_) rfl (by kernel_rfl) (by kernel_rfl) (by kernel_rfl) (fun _ _ _ h => h) (Or.inl ⟨by rfl, ?_⟩) (by assumption) ?_
    rotate_left
    · (intro w hSw; (try dsimp only at hSw); go_split_ands; go_simp; (try with_reducible rfl))
    (try simp only [Act.put, List.getElem_toArray, List.getElem_cons_zero, List.getElem_cons_succ, List.setIfInBounds_toArray, List.set_cons_zero, List.set_cons_succ])
    refine wpAnyH_take (i := 5) (v := ?_) rfl (by kernel_rfl) (by kernel_rfl) (by kernel_rfl) (fun _ _ _ h => h) (Or.inl ⟨by rfl, ?_⟩) (by assumption) ?_
    rotate_left
    · (intro w hSw; (try dsimp only at hSw); go_split_ands; go_simp; (try with_reducible rfl))
    (try simp only [Act.put, List.getElem_toArray, List.getElem_cons_zero, List.getElem_cons_succ, List.setIfInBounds_toArray, List.set_cons_zero, List.set_cons_succ])
    refine wpAnyH_take (i := 7) (v := ?_) rfl (by kernel_rfl) (by kernel_rfl) (by kernel_rfl) (fun _ _ _ h => h) (Or.inl ⟨by rfl, ?_⟩) (by assumption) ?_
    rotate_left
    · (intro w hSw; (try dsimp only at hSw); go_split_ands; go_simp; (try with_reducible rfl))
    (try simp only [Act.put, List.getElem_toArray, List.getElem_cons_zero, List.getElem_cons_succ, List.setIfInBounds_toArray, List.set_cons_zero, List.set_cons_succ])
    refine wpAnyH_take (i := 8) (v := ?_) rfl (by kernel_rfl) (by kernel_rfl) (by kernel_rfl) (fun _ _ _ h => h) (Or.inl ⟨by rfl, ?_⟩) (by assumption) ?_
    rotate_left
    · (intro w hSw; (try dsimp only at hSw); go_split_ands; go_simp; (try with_reducible rfl))
    (try simp only [Act.put, List.getElem_toArray, List.getElem_cons_zero, List.getElem_cons_succ, List.setIfInBounds_toArray, List.set_cons_zero, List.set_cons_succ])
    refine wpAnyH_take (i := 9) (v := ?_) rfl (by kernel_rfl) (by kernel_rfl) (by kernel_rfl) (fun _ _ _ h => h) (Or.inl ⟨by rfl, ?_⟩) (by assumption) ?_
    rotate_left
    · (intro w hSw; (try dsimp only at hSw); go_split_ands; go_simp; (try with_reducible rfl))
    (try simp only [Act.put, List.getElem_toArray, List.getElem_cons_zero, List.getElem_cons_succ, List.setIfInBounds_toArray, List.set_cons_zero, List.set_cons_succ])
    refine wpAnyH_ready (rs := [6]) (by kernel_rfl) (by simp) ?_
    refine AllReadyH.cons rfl (fun K hK => ?_) AllReadyH.nil
    go_simp
    (first | ((first | (go_at_call 92; refine (major_any _ _ _ _ _ _ _).mono ?_) | (go_at_call 93; refine (minor_any _ _ _ _ _ _ _).mono ?_) | (go_at_call 94; refine (patch_any _ _ _ _ _ _ _).mono ?_) | (go_at_call 95; refine (pre_any _ _ _ _ _ _ _).mono ?_)); rintro e w' ⟨rfl, hw⟩; replace bn : Below w.heap.size w w' := (by rw [hw]; exact (by repeat (first | assumption | exact Below.refl _ _ | refine below_drewN ?_ _ | refine Below.drew ?_ | refine Below.alloc ?_ (by first | omega | (simp <;> omega)) _))); clear hw; replace nn : w.heap.size ≤ w'.heap.size := bn.size; clear c0 c1 c2 c3 c4 c5 d0 d1 d2 d3 d4 d5 e0 e1 e2 e3 e4 e5; obtain ⟨c0, c1, c2, c3, c4, c5, d0, d1, d2, d3, d4, d5, e0, e1, e2, e3, e4, e5⟩ := cells18 hg hj hk bn))
    refine hK.out _ _ ?_ (fun hHeld => ?_)
    · (refine ⟨?_, ?_, ?_, ?_, ?_, ?_, ?_, ?_, ?_, ?_, ?_, ?_, ?_, ?_, ?_, ?_, ?_, ?_⟩ <;> (repeat (first | assumption | (with_reducible refine keepD ?_) | (with_reducible refine keepN ?_) | (with_reducible refine keepV ?_))))
    clear hK K
    (try simp only [Act.put, List.getElem_toArray, List.getElem_cons_zero, List.getElem_cons_succ, List.setIfInBounds_toArray, List.set_cons_zero, List.set_cons_succ])
    refine wpAnyH_ready (rs := [10]) (by kernel_rfl) (by simp) ?_
    refine AllReadyH.cons rfl (fun K hK => ?_) AllReadyH.nil
    go_simp
    (first | ((first | (go_at_call 92; refine (major_any _ _ _ _ _ _ _).mono ?_) | (go_at_call 93; refine (minor_any _ _ _ _ _ _ _).mono ?_) | (go_at_call 94; refine (patch_any _ _ _ _ _ _ _).mono ?_) | (go_at_call 95; refine (pre_any _ _ _ _ _ _ _).mono ?_)); rintro e w' ⟨rfl, hw⟩; replace bn : Below w.heap.size w w' := (by rw [hw]; exact (by repeat (first | assumption | exact Below.refl _ _ | refine below_drewN ?_ _ | refine Below.drew ?_ | refine Below.alloc ?_ (by first | omega | (simp <;> omega)) _))); clear hw; replace nn : w.heap.size ≤ w'.heap.size := bn.size; clear c0 c1 c2 c3 c4 c5 d0 d1 d2 d3 d4 d5 e0 e1 e2 e3 e4 e5; obtain ⟨c0, c1, c2, c3, c4, c5, d0, d1, d2, d3, d4, d5, e0, e1, e2, e3, e4, e5⟩ := cells18 hg hj hk bn))
    refine hK.out _ _ ?_ (fun hHeld => ?_)
    · (refine ⟨?_, ?_, ?_, ?_, ?_, ?_, ?_, ?_, ?_, ?_, ?_, ?_, ?_, ?_, ?_, ?_, ?_, ?_⟩ <;> (repeat (first | assumption | (with_reducible refine keepD ?_) | (with_reducible refine keepN ?_) | (with_reducible refine keepV ?_))))
    clear hK K
    (try simp only [Act.put, List.getElem_toArray, List.getElem_cons_zero, List.getElem_cons_succ, List.setIfInBounds_toArray, List.set_cons_zero, List.set_cons_succ])
    refine wpAnyH_take (i := 11) (v := ?_) rfl (by kernel_rfl) (by kernel_rfl) (by kernel_rfl) (fun _ _ _ h => h) (Or.inl ⟨by rfl, ?_⟩) (by assumption) ?_
    rotate_left
    · (intro w hSw; (try dsimp only at hSw); go_split_ands; go_simp; (try with_reducible rfl))
    (try simp only [Act.put, List.getElem_toArray, List.getElem_cons_zero, List.getElem_cons_succ, List.setIfInBounds_toArray, List.set_cons_zero, List.set_cons_succ])
    refine wpAnyH_take (i := 12) (v := ?_) rfl (by kernel_rfl) (by kernel_rfl) (by kernel_rfl) (fun _ _ _ h => h) (Or.inl ⟨by rfl, ?_⟩) (by assumption) ?_
    rotate_left
    · (intro w hSw; (try dsimp only at hSw); go_split_ands; go_simp; (try with_reducible rfl))
    (try simp only [Act.put, List.getElem_toArray, List.getElem_cons_zero, List.getElem_cons_succ, List.setIfInBounds_toArray, List.set_cons_zero, List.set_cons_succ])
    refine wpAnyH_take (i := 13) (v := undef) rfl (by kernel_rfl) (by kernel_rfl) (by kernel_rfl) (fun _ _ _ h => h) (Or.inr ⟨by rfl, rfl⟩) (by assumption) ?_
    (try simp only [Act.put, List.getElem_toArray, List.getElem_cons_zero, List.getElem_cons_succ, List.setIfInBounds_toArray, List.set_cons_zero, List.set_cons_succ])
    refine wpAnyH_take (i := 14) (v := undef) rfl (by kernel_rfl) (by kernel_rfl) (by kernel_rfl) (fun _ _ _ h => h) (Or.inr ⟨by rfl, rfl⟩) (by assumption) ?_
    (try simp only [Act.put, List.getElem_toArray, List.getElem_cons_zero, List.getElem_cons_succ, List.setIfInBounds_toArray, List.set_cons_zero, List.set_cons_succ])
    refine wpAnyH_take (i := 15) (v := undef) rfl (by kernel_rfl) (by kernel_rfl) (by kernel_rfl) (fun _ _ _ h => h) (Or.inr ⟨by rfl, rfl⟩) (by assumption) ?_
    (try simp only [Act.put, List.getElem_toArray, List.getElem_cons_zero, List.getElem_cons_succ, List.setIfInBounds_toArray, List.set_cons_zero, List.set_cons_succ])
    refine wpAnyH_take (i := 16) (v := undef) rfl (by kernel_rfl) (by kernel_rfl) (by kernel_rfl) (fun _ _ _ h => h) (Or.inr ⟨by rfl, rfl⟩) (by assumption) ?_
    (try simp only [Act.put, List.getElem_toArray, List.getElem_cons_zero, List.getElem_cons_succ, List.setIfInBounds_toArray, List.set_cons_zero, List.set_cons_succ])
    refine wpAnyH_take (i := 17) (v := undef) rfl (by kernel_rfl) (by kernel_rfl) (by kernel_rfl) (fun _ _ _ h => h) (Or.inr ⟨by rfl, rfl⟩) (by assumption) ?_
    (try simp only [Act.put, List.getElem_toArray, List.getElem_cons_zero, List.getElem_cons_succ, List.setIfInBounds_toArray, List.set_cons_zero, List.set_cons_succ])
    refine wpAnyH_take (i := 18) (v := ?_) rfl (by kernel_rfl) (by kernel_rfl) (by kernel_rfl) (fun _ _ _ h => h) (Or.inl ⟨by rfl, ?_⟩) (by assumption) ?_
    rotate_left
    · (intro w hSw; (try dsimp only at hSw); go_split_ands; go_simp; (try with_reducible rfl))
    (try simp only [Act.put, List.getElem_toArray, List.getElem_cons_zero, List.getElem_cons_succ, List.setIfInBounds_toArray, List.set_cons_zero, List.set_cons_succ])
    refine wpAnyH_done (by kernel_rfl) ?_ _
    go_wp2_with (first | ((first | (go_at_call 92; refine (major_any _ _ _ _ _ _ _).mono ?_) | (go_at_call 93; refine (minor_any _ _ _ _ _ _ _).mono ?_) | (go_at_call 94; refine (patch_any _ _ _ _ _ _ _).mono ?_) | (go_at_call 95; refine (pre_any _ _ _ _ _ _ _).mono ?_)); rintro e w' ⟨rfl, hw⟩; replace bn : Below w.heap.size w w' := (by rw [hw]; exact (by repeat (first | assumption | exact Below.refl _ _ | refine below_drewN ?_ _ | refine Below.drew ?_ | refine Below.alloc ?_ (by first | omega | (simp <;> omega)) _))); clear hw; replace nn : w.heap.size ≤ w'.heap.size := bn.size; clear c0 c1 c2 c3 c4 c5 d0 d1 d2 d3 d4 d5 e0 e1 e2 e3 e4 e5; obtain ⟨c0, c1, c2, c3, c4, c5, d0, d1, d2, d3, d4, d5, e0, e1, e2, e3, e4, e5⟩ := cells18 hg hj hk bn))
    go_region_held3 (fun w' => w'.cell? ⟨g, 0, none⟩ = some (.int .u64 x) ∧ w'.cell? ⟨g, 1, none⟩ = some (.int .u64 y) ∧ w'.cell? ⟨g, 2, none⟩ = some (.int .u64 z) ∧ w'.cell? ⟨g, 3, none⟩ = some (.string q) ∧ w'.cell? ⟨g, 4, none⟩ = some (.string n) ∧ w'.cell? ⟨g, 5, none⟩ = some (.string r) ∧ w'.cell? ⟨j, 0, none⟩ = some (.int .u64 x) ∧ w'.cell? ⟨j, 1, none⟩ = some (.int .u64 y) ∧ w'.cell? ⟨j, 2, none⟩ = some (.int .u64 c) ∧ w'.cell? ⟨j, 3, none⟩ = some (.string p) ∧ w'.cell? ⟨j, 4, none⟩ = some (.string m) ∧ w'.cell? ⟨j, 5, none⟩ = some (.string o) ∧ w'.cell? ⟨k, 0, none⟩ = some (.pointer (some ⟨j, 0, none⟩)) ∧ w'.cell? ⟨k, 1, none⟩ = some (.string ⟨#[]⟩) ∧ w'.cell? ⟨k, 2, none⟩ = some (.string s) ∧ w'.cell? ⟨k, 3, none⟩ = some (.bool false) ∧ w'.cell? ⟨k, 4, none⟩ = some (.bool true) ∧ w'.cell? ⟨k, 5, none⟩ = some (.bool true)) (first | (refine ⟨?_, ?_, ?_, ?_, ?_, ?_, ?_, ?_, ?_, ?_, ?_, ?_, ?_, ?_, ?_, ?_, ?_, ?_⟩ <;> (repeat (first | assumption | (with_reducible refine keepD ?_) | (with_reducible refine keepN ?_) | (with_reducible refine keepV ?_)))) | go_keep)
        (first | ((first | (go_at_call 92; refine (major_any _ _ _ _ _ _ _).mono ?_) | (go_at_call 93; refine (minor_any _ _ _ _ _ _ _).mono ?_) | (go_at_call 94; refine (patch_any _ _ _ _ _ _ _).mono ?_) | (go_at_call 95; refine (pre_any _ _ _ _ _ _ _).mono ?_)); rintro e w' ⟨rfl, hw⟩; replace bn : Below w.heap.size w w' := (by rw [hw]; exact (by repeat (first | assumption | exact Below.refl _ _ | refine below_drewN ?_ _ | refine Below.drew ?_ | refine Below.alloc ?_ (by first | omega | (simp <;> omega)) _))); clear hw; replace nn : w.heap.size ≤ w'.heap.size := bn.size; clear c0 c1 c2 c3 c4 c5 d0 d1 d2 d3 d4 d5 e0 e1 e2 e3 e4 e5; obtain ⟨c0, c1, c2, c3, c4, c5, d0, d1, d2, d3, d4, d5, e0, e1, e2, e3, e4, e5⟩ := cells18 hg hj hk bn))
    go_wp2_with (first | ((first | (go_at_call 92; refine (major_any _ _ _ _ _ _ _).mono ?_) | (go_at_call 93; refine (minor_any _ _ _ _ _ _ _).mono ?_) | (go_at_call 94; refine (patch_any _ _ _ _ _ _ _).mono ?_) | (go_at_call 95; refine (pre_any _ _ _ _ _ _ _).mono ?_)); rintro e w' ⟨rfl, hw⟩; replace bn : Below w.heap.size w w' := (by rw [hw]; exact (by repeat (first | assumption | exact Below.refl _ _ | refine below_drewN ?_ _ | refine Below.drew ?_ | refine Below.alloc ?_ (by first | omega | (simp <;> omega)) _))); clear hw; replace nn : w.heap.size ≤ w'.heap.size := bn.size; clear c0 c1 c2 c3 c4 c5 d0 d1 d2 d3 d4 d5 e0 e1 e2 e3 e4 e5; obtain ⟨c0, c1, c2, c3, c4, c5, d0, d1, d2, d3, d4, d5, e0, e1, e2, e3, e4, e5⟩ := cells18 hg hj hk bn))
    go_region_held3 (fun w' => w'.cell? ⟨g, 0, none⟩ = some (.int .u64 x) ∧ w'.cell? ⟨g, 1, none⟩ = some (.int .u64 y) ∧ w'.cell? ⟨g, 2, none⟩ = some (.int .u64 z) ∧ w'.cell? ⟨g, 3, none⟩ = some (.string q) ∧ w'.cell? ⟨g, 4, none⟩ = some (.string n) ∧ w'.cell? ⟨g, 5, none⟩ = some (.string r) ∧ w'.cell? ⟨j, 0, none⟩ = some (.int .u64 x) ∧ w'.cell? ⟨j, 1, none⟩ = some (.int .u64 y) ∧ w'.cell? ⟨j, 2, none⟩ = some (.int .u64 c) ∧ w'.cell? ⟨j, 3, none⟩ = some (.string p) ∧ w'.cell? ⟨j, 4, none⟩ = some (.string m) ∧ w'.cell? ⟨j, 5, none⟩ = some (.string o) ∧ w'.cell? ⟨k, 0, none⟩ = some (.pointer (some ⟨j, 0, none⟩)) ∧ w'.cell? ⟨k, 1, none⟩ = some (.string ⟨#[]⟩) ∧ w'.cell? ⟨k, 2, none⟩ = some (.string s) ∧ w'.cell? ⟨k, 3, none⟩ = some (.bool false) ∧ w'.cell? ⟨k, 4, none⟩ = some (.bool true) ∧ w'.cell? ⟨k, 5, none⟩ = some (.bool true)) (first | (refine ⟨?_, ?_, ?_, ?_, ?_, ?_, ?_, ?_, ?_, ?_, ?_, ?_, ?_, ?_, ?_, ?_, ?_, ?_⟩ <;> (repeat (first | assumption | (with_reducible refine keepD ?_) | (with_reducible refine keepN ?_) | (with_reducible refine keepV ?_)))) | go_keep)
        (first | ((first | (go_at_call 92; refine (major_any _ _ _ _ _ _ _).mono ?_) | (go_at_call 93; refine (minor_any _ _ _ _ _ _ _).mono ?_) | (go_at_call 94; refine (patch_any _ _ _ _ _ _ _).mono ?_) | (go_at_call 95; refine (pre_any _ _ _ _ _ _ _).mono ?_)); rintro e w' ⟨rfl, hw⟩; replace bn : Below w.heap.size w w' := (by rw [hw]; exact (by repeat (first | assumption | exact Below.refl _ _ | refine below_drewN ?_ _ | refine Below.drew ?_ | refine Below.alloc ?_ (by first | omega | (simp <;> omega)) _))); clear hw; replace nn : w.heap.size ≤ w'.heap.size := bn.size; clear c0 c1 c2 c3 c4 c5 d0 d1 d2 d3 d4 d5 e0 e1 e2 e3 e4 e5; obtain ⟨c0, c1, c2, c3, c4, c5, d0, d1, d2, d3, d4, d5, e0, e1, e2, e3, e4, e5⟩ := cells18 hg hj hk bn) | (go_at_call 87; refine (preRel_loop q p hq hp _ (he.below bn)).mono ?_; rintro e w' ⟨rfl, hw⟩; rw [HP.out]; replace bn : Below w.heap.size w w' := bn.trans (hw.mono bn.size); clear hw; replace nn : w.heap.size ≤ w'.heap.size := bn.size; clear c0 c1 c2 c3 c4 c5 d0 d1 d2 d3 d4 d5 e0 e1 e2 e3 e4 e5; obtain ⟨c0, c1, c2, c3, c4, c5, d0, d1, d2, d3, d4, d5, e0, e1, e2, e3, e4, e5⟩ := cells18 hg hj hk bn))
    go_wp2_with (first | ((first | (go_at_call 92; refine (major_any _ _ _ _ _ _ _).mono ?_) | (go_at_call 93; refine (minor_any _ _ _ _ _ _ _).mono ?_) | (go_at_call 94; refine (patch_any _ _ _ _ _ _ _).mono ?_) | (go_at_call 95; refine (pre_any _ _ _ _ _ _ _).mono ?_)); rintro e w' ⟨rfl, hw⟩; replace bn : Below w.heap.size w w' := (by rw [hw]; exact (by repeat (first | assumption | exact Below.refl _ _ | refine below_drewN ?_ _ | refine Below.drew ?_ | refine Below.alloc ?_ (by first | omega | (simp <;> omega)) _))); clear hw; replace nn : w.heap.size ≤ w'.heap.size := bn.size; clear c0 c1 c2 c3 c4 c5 d0 d1 d2 d3 d4 d5 e0 e1 e2 e3 e4 e5; obtain ⟨c0, c1, c2, c3, c4, c5, d0, d1, d2, d3, d4, d5, e0, e1, e2, e3, e4, e5⟩ := cells18 hg hj hk bn) | (go_at_call 120; refine (errNew_any _ _).mono ?_; rintro e w' ⟨⟨t9, p9, rfl⟩, hw⟩; have bn : Below w.heap.size w w' := (by rw [hw]; exact (by repeat (first | assumption | exact Below.refl _ _ | refine below_drewN ?_ _ | refine Below.drew ?_ | refine Below.alloc ?_ (by first | omega | (simp <;> omega)) _))); clear hw; have nn : w.heap.size ≤ w'.heap.size := bn.size))
    go_ret2
    exact ⟨_, rfl, bn⟩

set_option maxRecDepth 100000 in
set_option maxHeartbeats 16000000 in
theorem nq_pn_0 (g j k : Nat) (x y z a b c : Int) (q n r p m o s : ByteArray) (dy md pd pre : Bool) (w : World) (hg : VerAt w g (verC x y z q n r)) (hj : VerAt w j (verC a b c p m o)) (hk : ConAt w k #[.pointer (some ⟨j, 0, none⟩), .string ⟨#[]⟩, .string s, .bool md, .bool dy, .bool pd]) (hq : q.size ≤ 2147483654) (hp : p.size ≤ 2147483654) (he : Hid (Errs w)) (R : Int) (HR : Hid (cmpI x y z q a b c p = R)) (hne : g ≠ j) (h1 : q.toList = []) (hd : dy = true) (hx : x = a) (hy : y = b) (hm : md = false) (hz : c ≠ z) (hpd : pd = true) (h3 : p.toList = []) :
    Calls Tryd.prog 106 #[.pointer (some ⟨g, 0, none⟩), .pointer (some ⟨k, 0, none⟩), .bool pre] w (HoldPost false w) := by
  subst hd
  subst hx
  subst hy
  subst hm
  subst hpd
  have hz2 : (c != z) = true := by simp; exact hz
  have hz3 : (c == z) = false := by simp; exact hz
  rcases Bool.eq_false_or_eq_true pre with h2 | h2
  all_goals subst h2
  all_goals
    obtain ⟨c0, c1, c2, c3, c4, c5, d0, d1, d2, d3, d4, d5, e0, e1, e2, e3, e4, e5⟩ := cells18 hg hj hk (Below.refl w.heap.size w)
    have bn : Below w.heap.size w w := Below.refl _ _
    have nn : w.heap.size ≤ w.heap.size := Nat.le_refl _
    go_enter Tryd.func106, Tryd.ntmps106
    go_wp2_with (first | ((first | (go_at_call 92; refine (major_any _ _ _ _ _ _ _).mono ?_) | (go_at_call 93; refine (minor_any _ _ _ _ _ _ _).mono ?_) | (go_at_call 94; refine (patch_any _ _ _ _ _ _ _).mono ?_) | (go_at_call 95; refine (pre_any _ _ _ _ _ _ _).mono ?_)); rintro e w' ⟨rfl, hw⟩; replace bn : Below w.heap.size w w' := (by rw [hw]; exact (by repeat (first | assumption | exact Below.refl _ _ | refine below_drewN ?_ _ | refine Below.drew ?_ | refine Below.alloc ?_ (by first | omega | (simp <;> omega)) _))); clear hw; replace nn : w.heap.size ≤ w'.heap.size := bn.size; clear c0 c1 c2 c3 c4 c5 d0 d1 d2 d3 d4 d5 e0 e1 e2 e3 e4 e5; obtain ⟨c0, c1, c2, c3, c4, c5, d0, d1, d2, d3, d4, d5, e0, e1, e2, e3, e4, e5⟩ := cells18 hg hj hk bn))
    go_region_held3 (fun w' => w'.cell? ⟨g, 0, none⟩ = some (.int .u64 x) ∧ w'.cell? ⟨g, 1, none⟩ = some (.int .u64 y) ∧ w'.cell? ⟨g, 2, none⟩ = some (.int .u64 z) ∧ w'.cell? ⟨g, 3, none⟩ = some (.string q) ∧ w'.cell? ⟨g, 4, none⟩ = some (.string n) ∧ w'.cell? ⟨g, 5, none⟩ = some (.string r) ∧ w'.cell? ⟨j, 0, none⟩ = some (.int .u64 x) ∧ w'.cell? ⟨j, 1, none⟩ = some (.int .u64 y) ∧ w'.cell? ⟨j, 2, none⟩ = some (.int .u64 c) ∧ w'.cell? ⟨j, 3, none⟩ = some (.string p) ∧ w'.cell? ⟨j, 4, none⟩ = some (.string m) ∧ w'.cell? ⟨j, 5, none⟩ = some (.string o) ∧ w'.cell? ⟨k, 0, none⟩ = some (.pointer (some ⟨j, 0, none⟩)) ∧ w'.cell? ⟨k, 1, none⟩ = some (.string ⟨#[]⟩) ∧ w'.cell? ⟨k, 2, none⟩ = some (.string s) ∧ w'.cell? ⟨k, 3, none⟩ = some (.bool false) ∧ w'.cell? ⟨k, 4, none⟩ = some (.bool true) ∧ w'.cell? ⟨k, 5, none⟩ = some (.bool true)) (first | (refine ⟨?_, ?_, ?_, ?_, ?_, ?_, ?_, ?_, ?_, ?_, ?_, ?_, ?_, ?_, ?_, ?_, ?_, ?_⟩ <;> (repeat (first | assumption | (with_reducible refine keepD ?_) | (with_reducible refine keepN ?_) | (with_reducible refine keepV ?_)))) | go_keep)
        (first | ((first | (go_at_call 92; refine (major_any _ _ _ _ _ _ _).mono ?_) | (go_at_call 93; refine (minor_any _ _ _ _ _ _ _).mono ?_) | (go_at_call 94; refine (patch_any _ _ _ _ _ _ _).mono ?_) | (go_at_call 95; refine (pre_any _ _ _ _ _ _ _).mono ?_)); rintro e w' ⟨rfl, hw⟩; replace bn : Below w.heap.size w w' := (by rw [hw]; exact (by repeat (first | assumption | exact Below.refl _ _ | refine below_drewN ?_ _ | refine Below.drew ?_ | refine Below.alloc ?_ (by first | omega | (simp <;> omega)) _))); clear hw; replace nn : w.heap.size ≤ w'.heap.size := bn.size; clear c0 c1 c2 c3 c4 c5 d0 d1 d2 d3 d4 d5 e0 e1 e2 e3 e4 e5; obtain ⟨c0, c1, c2, c3, c4, c5, d0, d1, d2, d3, d4, d5, e0, e1, e2, e3, e4, e5⟩ := cells18 hg hj hk bn))
    go_wp2_with (first | ((first | (go_at_call 92; refine (major_any _ _ _ _ _ _ _).mono ?_) | (go_at_call 93; refine (minor_any _ _ _ _ _ _ _).mono ?_) | (go_at_call 94; refine (patch_any _ _ _ _ _ _ _).mono ?_) | (go_at_call 95; refine (pre_any _ _ _ _ _ _ _).mono ?_)); rintro e w' ⟨rfl, hw⟩; replace bn : Below w.heap.size w w' := (by rw [hw]; exact (by repeat (first | assumption | exact Below.refl _ _ | refine below_drewN ?_ _ | refine Below.drew ?_ | refine Below.alloc ?_ (by first | omega | (simp <;> omega)) _))); clear hw; replace nn : w.heap.size ≤ w'.heap.size := bn.size; clear c0 c1 c2 c3 c4 c5 d0 d1 d2 d3 d4 d5 e0 e1 e2 e3 e4 e5; obtain ⟨c0, c1, c2, c3, c4, c5, d0, d1, d2, d3, d4, d5, e0, e1, e2, e3, e4, e5⟩ := cells18 hg hj hk bn))
    refine wp_region_held_drew (S := (fun w' => w'.cell? ⟨g, 0, none⟩ = some (.int .u64 x) ∧ w'.cell? ⟨g, 1, none⟩ = some (.int .u64 y) ∧ w'.cell? ⟨g, 2, none⟩ = some (.int .u64 z) ∧ w'.cell? ⟨g, 3, none⟩ = some (.string q) ∧ w'.cell? ⟨g, 4, none⟩ = some (.string n) ∧ w'.cell? ⟨g, 5, none⟩ = some (.string r) ∧ w'.cell? ⟨j, 0, none⟩ = some (.int .u64 x) ∧ w'.cell? ⟨j, 1, none⟩ = some (.int .u64 y) ∧ w'.cell? ⟨j, 2, none⟩ = some (.int .u64 c) ∧ w'.cell? ⟨j, 3, none⟩ = some (.string p) ∧ w'.cell? ⟨j, 4, none⟩ = some (.string m) ∧ w'.cell? ⟨j, 5, none⟩ = some (.string o) ∧ w'.cell? ⟨k, 0, none⟩ = some (.pointer (some ⟨j, 0, none⟩)) ∧ w'.cell? ⟨k, 1, none⟩ = some (.string ⟨#[]⟩) ∧ w'.cell? ⟨k, 2, none⟩ = some (.string s) ∧ w'.cell? ⟨k, 3, none⟩ = some (.bool false) ∧ w'.cell? ⟨k, 4, none⟩ = some (.bool true) ∧ w'.cell? ⟨k, 5, none⟩ = some (.bool true))) (by kernel_rfl) ?_ (fun hHeld => ?_)
    · (refine ⟨?_, ?_, ?_, ?_, ?_, ?_, ?_, ?_, ?_, ?_, ?_, ?_, ?_, ?_, ?_, ?_, ?_, ?_⟩ <;> (repeat (first | assumption | (with_reducible refine keepD ?_) | (with_reducible refine keepN ?_) | (with_reducible refine keepV ?_))))
    refine wpAnyH_take (i := 0) (v := ?_) rfl (by kernel_rfl) (by kernel_rfl) (by kernel_rfl) (fun _ _ _ h => h) (Or.inl ⟨by rfl, ?_⟩) (by assumption) ?_
    rotate_left
    · (intro w hSw; (try dsimp only at hSw); go_split_ands; go_simp; (try with_reducible rfl))
    (try simp only [Act.put, List.getElem_toArray, List.getElem_cons_zero, List.getElem_cons_succ, List.setIfInBounds_toArray, List.set_cons_zero, List.set_cons_succ])
    refine wpAnyH_take (i := 1) (v := ?_) rfl (by kernel_rfl) (by kernel_rfl) (by kernel_rfl) (fun _ _ _ h => h) (Or.inl ⟨by rfl, ?_⟩) (by assumption) ?_
    rotate_left
    · (intro w hSw; (try dsimp only at hSw); go_split_ands; go_simp; (try with_reducible rfl))
    (try simp only [Act.put, List.getElem_toArray, List.getElem_cons_zero, List.getElem_cons_succ, List.setIfInBounds_toArray, List.set_cons_zero, List.set_cons_succ])
    refine wpAnyH_take (i := 2) (v := ?_) rfl (by kernel_rfl) (by kernel_rfl) (by kernel_rfl) (fun _ _ _ h => h) (Or.inl ⟨by rfl, ?_⟩) (by assumption) ?_
    rotate_left
    · (intro w hSw; (try dsimp only at hSw); go_split_ands; go_simp; (try with_reducible rfl))
    (try simp only [Act.put, List.getElem_toArray, List.getElem_cons_zero, List.getElem_cons_succ, List.setIfInBounds_toArray, List.set_cons_zero, List.set_cons_succ])
    refine wpAnyH_take (i := 3) (v := ?_) rfl (by kernel_rfl) (by kernel_rfl) (by kernel_rfl) (fun _ _ _ h => h) (Or.inl ⟨by rfl, ?_⟩) (by assumption) ?_
    rotate_left
    · (intro w hSw; (try dsimp only at hSw); go_split_ands; go_simp; (try with_reducible rfl))
    (try simp only [Act.put, List.getElem_toArray, List.getElem_cons_zero, List.getElem_cons_succ, List.setIfInBounds_toArray, List.set_cons_zero, List.set_cons_succ])
    refine wpAnyH_take (i := 4) (v := ?_) rfl (by kernel_rfl) (by kernel_rfl) (by kernel_rfl) (fun _ _ _ h => h) (Or.inl ⟨by rfl, ?_⟩) (by assumption) ?_
    rotate_left
    · (intro w hSw; (try dsimp only at hSw); go_split_ands; go_simp; (try with_reducible rfl))
    (try simp only [Act.put, List.getElem_toArray, List.getElem_cons_zero, List.getElem_cons_succ, List.setIfInBounds_toArray, List.set_cons_zero, List.set_cons_succ])
    refine wpAnyH_take (i := 5) (v := ?_) rfl (by kernel_rfl) (by kernel_rfl) (by kernel_rfl) (fun _ _ _ h => h) (Or.inl ⟨by rfl, ?_⟩) (by assumption) ?_
    rotate_left
    · (intro w hSw; (try dsimp only at hSw); go_split_ands; go_simp; (try with_reducible rfl))
    (try simp only [Act.put, List.getElem_toArray, List.getElem_cons_zero, List.getElem_cons_succ, List.setIfInBounds_toArray, List.set_cons_zero, List.set_cons_succ])
    refine wpAnyH_take (i := 7) (v := ?_) rfl (by kernel_rfl) (by kernel_rfl) (by kernel_rfl) (fun _ _ _ h => h) (Or.inl ⟨by rfl, ?_⟩) (by assumption) ?_
    rotate_left
    · (intro w hSw; (try dsimp only at hSw); go_split_ands; go_simp; (try with_reducible rfl))
    (try simp only [Act.put, List.getElem_toArray, List.getElem_cons_zero, List.getElem_cons_succ, List.setIfInBounds_toArray, List.set_cons_zero, List.set_cons_succ])
    refine wpAnyH_take (i := 8) (v := ?_) rfl (by kernel_rfl) (by kernel_rfl) (by kernel_rfl) (fun _ _ _ h => h) (Or.inl ⟨by rfl, ?_⟩) (by assumption) ?_
    rotate_left
    · (intro w hSw; (try dsimp only at hSw); go_split_ands; go_simp; (try with_reducible rfl))
    (try simp only [Act.put, List.getElem_toArray, List.getElem_cons_zero, List.getElem_cons_succ, List.setIfInBounds_toArray, List.set_cons_zero, List.set_cons_succ])
    refine wpAnyH_take (i := 9) (v := ?_) rfl (by kernel_rfl) (by kernel_rfl) (by kernel_rfl) (fun _ _ _ h => h) (Or.inl ⟨by rfl, ?_⟩) (by assumption) ?_
    rotate_left
    · (intro w hSw; (try dsimp only at hSw); go_split_ands; go_simp; (try with_reducible rfl))
    (try simp only [Act.put, List.getElem_toArray, List.getElem_cons_zero, List.getElem_cons_succ, List.setIfInBounds_toArray, List.set_cons_zero, List.set_cons_succ])
    refine wpAnyH_ready (rs := [6]) (by kernel_rfl) (by simp) ?_
    refine AllReadyH.cons rfl (fun K hK => ?_) AllReadyH.nil
    go_simp
    (first | ((first | (go_at_call 92; refine (major_any _ _ _ _ _ _ _).mono ?_) | (go_at_call 93; refine (minor_any _ _ _ _ _ _ _).mono ?_) | (go_at_call 94; refine (patch_any _ _ _ _ _ _ _).mono ?_) | (go_at_call 95; refine (pre_any _ _ _ _ _ _ _).mono ?_)); rintro e w' ⟨rfl, hw⟩; replace bn : Below w.heap.size w w' := (by rw [hw]; exact (by repeat (first | assumption | exact Below.refl _ _ | refine below_drewN ?_ _ | refine Below.drew ?_ | refine Below.alloc ?_ (by first | omega | (simp <;> omega)) _))); clear hw; replace nn : w.heap.size ≤ w'.heap.size := bn.size; clear c0 c1 c2 c3 c4 c5 d0 d1 d2 d3 d4 d5 e0 e1 e2 e3 e4 e5; obtain ⟨c0, c1, c2, c3, c4, c5, d0, d1, d2, d3, d4, d5, e0, e1, e2, e3, e4, e5⟩ := cells18 hg hj hk bn))
    refine hK.out _ _ ?_ (fun hHeld => ?_)
    · (refine ⟨?_, ?_, ?_, ?_, ?_, ?_, ?_, ?_, ?_, ?_, ?_, ?_, ?_, ?_, ?_, ?_, ?_, ?_⟩ <;> (repeat (first | assumption | (with_reducible refine keepD ?_) | (with_reducible refine keepN ?_) | (with_reducible refine keepV ?_))))
    clear hK K
    (try simp only [Act.put, List.getElem_toArray, List.getElem_cons_zero, List.getElem_cons_succ, List.setIfInBounds_toArray, List.set_cons_zero, List.set_cons_succ])
    refine wpAnyH_ready (rs := [10]) (by kernel_rfl) (by simp) ?_
    refine AllReadyH.cons rfl (fun K hK => ?_) AllReadyH.nil
    go_simp
    (first | ((first | (go_at_call 92; refine (major_any _ _ _ _ _ _ _).mono ?_) | (go_at_call 93; refine (minor_any _ _ _ _ _ _ _).mono ?_) | (go_at_call 94; refine (patch_any _ _ _ _ _ _ _).mono ?_) | (go_at_call 95; refine (pre_any _ _ _ _ _ _ _).mono ?_)); rintro e w' ⟨rfl, hw⟩; replace bn : Below w.heap.size w w' := (by rw [hw]; exact (by repeat (first | assumption | exact Below.refl _ _ | refine below_drewN ?_ _ | refine Below.drew ?_ | refine Below.alloc ?_ (by first | omega | (simp <;> omega)) _))); clear hw; replace nn : w.heap.size ≤ w'.heap.size := bn.size; clear c0 c1 c2 c3 c4 c5 d0 d1 d2 d3 d4 d5 e0 e1 e2 e3 e4 e5; obtain ⟨c0, c1, c2, c3, c4, c5, d0, d1, d2, d3, d4, d5, e0, e1, e2, e3, e4, e5⟩ := cells18 hg hj hk bn))
    refine hK.out _ _ ?_ (fun hHeld => ?_)
    · (refine ⟨?_, ?_, ?_, ?_, ?_, ?_, ?_, ?_, ?_, ?_, ?_, ?_, ?_, ?_, ?_, ?_, ?_, ?_⟩ <;> (repeat (first | assumption | (with_reducible refine keepD ?_) | (with_reducible refine keepN ?_) | (with_reducible refine keepV ?_))))
    clear hK K
    (try simp only [Act.put, List.getElem_toArray, List.getElem_cons_zero, List.getElem_cons_succ, List.setIfInBounds_toArray, List.set_cons_zero, List.set_cons_succ])
    refine wpAnyH_take (i := 11) (v := ?_) rfl (by kernel_rfl) (by kernel_rfl) (by kernel_rfl) (fun _ _ _ h => h) (Or.inl ⟨by rfl, ?_⟩) (by assumption) ?_
    rotate_left
    · (intro w hSw; (try dsimp only at hSw); go_split_ands; go_simp; (try with_reducible rfl))
    (try simp only [Act.put, List.getElem_toArray, List.getElem_cons_zero, List.getElem_cons_succ, List.setIfInBounds_toArray, List.set_cons_zero, List.set_cons_succ])
    refine wpAnyH_take (i := 12) (v := ?_) rfl (by kernel_rfl) (by kernel_rfl) (by kernel_rfl) (fun _ _ _ h => h) (Or.inl ⟨by rfl, ?_⟩) (by assumption) ?_
    rotate_left
    · (intro w hSw; (try dsimp only at hSw); go_split_ands; go_simp; (try with_reducible rfl))
    (try simp only [Act.put, List.getElem_toArray, List.getElem_cons_zero, List.getElem_cons_succ, List.setIfInBounds_toArray, List.set_cons_zero, List.set_cons_succ])
    refine wpAnyH_take (i := 13) (v := undef) rfl (by kernel_rfl) (by kernel_rfl) (by kernel_rfl) (fun _ _ _ h => h) (Or.inr ⟨by rfl, rfl⟩) (by assumption) ?_
    (try simp only [Act.put, List.getElem_toArray, List.getElem_cons_zero, List.getElem_cons_succ, List.setIfInBounds_toArray, List.set_cons_zero, List.set_cons_succ])
    refine wpAnyH_take (i := 14) (v := undef) rfl (by kernel_rfl) (by kernel_rfl) (by kernel_rfl) (fun _ _ _ h => h) (Or.inr ⟨by rfl, rfl⟩) (by assumption) ?_
    (try simp only [Act.put, List.getElem_toArray, List.getElem_cons_zero, List.getElem_cons_succ, List.setIfInBounds_toArray, List.set_cons_zero, List.set_cons_succ])
    refine wpAnyH_take (i := 15) (v := undef) rfl (by kernel_rfl) (by kernel_rfl) (by kernel_rfl) (fun _ _ _ h => h) (Or.inr ⟨by rfl, rfl⟩) (by assumption) ?_
    (try simp only [Act.put, List.getElem_toArray, List.getElem_cons_zero, List.getElem_cons_succ, List.setIfInBounds_toArray, List.set_cons_zero, List.set_cons_succ])
    refine wpAnyH_take (i := 16) (v := undef) rfl (by kernel_rfl) (by kernel_rfl) (by kernel_rfl) (fun _ _ _ h => h) (Or.inr ⟨by rfl, rfl⟩) (by assumption) ?_
    (try simp only [Act.put, List.getElem_toArray, List.getElem_cons_zero, List.getElem_cons_succ, List.setIfInBounds_toArray, List.set_cons_zero, List.set_cons_succ])
    refine wpAnyH_take (i := 17) (v := undef) rfl (by kernel_rfl) (by kernel_rfl) (by kernel_rfl) (fun _ _ _ h => h) (Or.inr ⟨by rfl, rfl⟩) (by assumption) ?_
    (try simp only [Act.put, List.getElem_toArray, List.getElem_cons_zero, List.getElem_cons_succ, List.setIfInBounds_toArray, List.set_cons_zero, List.set_cons_succ])
    refine wpAnyH_take (i := 18) (v := ?_) rfl (by kernel_rfl) (by kernel_rfl) (by kernel_rfl) (fun _ _ _ h => h) (Or.inl ⟨by rfl, ?_⟩) (by assumption) ?_
    rotate_left
    · (intro w hSw; (try dsimp only at hSw); go_split_ands; go_simp; (try with_reducible rfl))
    (try simp only [Act.put, List.getElem_toArray, List.getElem_cons_zero, List.getElem_cons_succ, List.setIfInBounds_toArray, List.set_cons_zero, List.set_cons_succ])
    refine wpAnyH_done (by kernel_rfl) ?_ _
    go_wp2_with (first | ((first | (go_at_call 92; refine (major_any _ _ _ _ _ _ _).mono ?_) | (go_at_call 93; refine (minor_any _ _ _ _ _ _ _).mono ?_) | (go_at_call 94; refine (patch_any _ _ _ _ _ _ _).mono ?_) | (go_at_call 95; refine (pre_any _ _ _ _ _ _ _).mono ?_)); rintro e w' ⟨rfl, hw⟩; replace bn : Below w.heap.size w w' := (by rw [hw]; exact (by repeat (first | assumption | exact Below.refl _ _ | refine below_drewN ?_ _ | refine Below.drew ?_ | refine Below.alloc ?_ (by first | omega | (simp <;> omega)) _))); clear hw; replace nn : w.heap.size ≤ w'.heap.size := bn.size; clear c0 c1 c2 c3 c4 c5 d0 d1 d2 d3 d4 d5 e0 e1 e2 e3 e4 e5; obtain ⟨c0, c1, c2, c3, c4, c5, d0, d1, d2, d3, d4, d5, e0, e1, e2, e3, e4, e5⟩ := cells18 hg hj hk bn))
    go_region_held3 (fun w' => w'.cell? ⟨g, 0, none⟩ = some (.int .u64 x) ∧ w'.cell? ⟨g, 1, none⟩ = some (.int .u64 y) ∧ w'.cell? ⟨g, 2, none⟩ = some (.int .u64 z) ∧ w'.cell? ⟨g, 3, none⟩ = some (.string q) ∧ w'.cell? ⟨g, 4, none⟩ = some (.string n) ∧ w'.cell? ⟨g, 5, none⟩ = some (.string r) ∧ w'.cell? ⟨j, 0, none⟩ = some (.int .u64 x) ∧ w'.cell? ⟨j, 1, none⟩ = some (.int .u64 y) ∧ w'.cell? ⟨j, 2, none⟩ = some (.int .u64 c) ∧ w'.cell? ⟨j, 3, none⟩ = some (.string p) ∧ w'.cell? ⟨j, 4, none⟩ = some (.string m) ∧ w'.cell? ⟨j, 5, none⟩ = some (.string o) ∧ w'.cell? ⟨k, 0, none⟩ = some (.pointer (some ⟨j, 0, none⟩)) ∧ w'.cell? ⟨k, 1, none⟩ = some (.string ⟨#[]⟩) ∧ w'.cell? ⟨k, 2, none⟩ = some (.string s) ∧ w'.cell? ⟨k, 3, none⟩ = some (.bool false) ∧ w'.cell? ⟨k, 4, none⟩ = some (.bool true) ∧ w'.cell? ⟨k, 5, none⟩ = some (.bool true)) (first | (refine ⟨?_, ?_, ?_, ?_, ?_, ?_, ?_, ?_, ?_, ?_, ?_, ?_, ?_, ?_, ?_, ?_, ?_, ?_⟩ <;> (repeat (first | assumption | (with_reducible refine keepD ?_) | (with_reducible refine keepN ?_) | (with_reducible refine keepV ?_)))) | go_keep)
        (first | ((first | (go_at_call 92; refine (major_any _ _ _ _ _ _ _).mono ?_) | (go_at_call 93; refine (minor_any _ _ _ _ _ _ _).mono ?_) | (go_at_call 94; refine (patch_any _ _ _ _ _ _ _).mono ?_) | (go_at_call 95; refine (pre_any _ _ _ _ _ _ _).mono ?_)); rintro e w' ⟨rfl, hw⟩; replace bn : Below w.heap.size w w' := (by rw [hw]; exact (by repeat (first | assumption | exact Below.refl _ _ | refine below_drewN ?_ _ | refine Below.drew ?_ | refine Below.alloc ?_ (by first | omega | (simp <;> omega)) _))); clear hw; replace nn : w.heap.size ≤ w'.heap.size := bn.size; clear c0 c1 c2 c3 c4 c5 d0 d1 d2 d3 d4 d5 e0 e1 e2 e3 e4 e5; obtain ⟨c0, c1, c2, c3, c4, c5, d0, d1, d2, d3, d4, d5, e0, e1, e2, e3, e4, e5⟩ := cells18 hg hj hk bn))
    go_wp2_with (first | ((first | (go_at_call 92; refine (major_any _ _ _ _ _ _ _).mono ?_) | (go_at_call 93; refine (minor_any _ _ _ _ _ _ _).mono ?_) | (go_at_call 94; refine (patch_any _ _ _ _ _ _ _).mono ?_) | (go_at_call 95; refine (pre_any _ _ _ _ _ _ _).mono ?_)); rintro e w' ⟨rfl, hw⟩; replace bn : Below w.heap.size w w' := (by rw [hw]; exact (by repeat (first | assumption | exact Below.refl _ _ | refine below_drewN ?_ _ | refine Below.drew ?_ | refine Below.alloc ?_ (by first | omega | (simp <;> omega)) _))); clear hw; replace nn : w.heap.size ≤ w'.heap.size := bn.size; clear c0 c1 c2 c3 c4 c5 d0 d1 d2 d3 d4 d5 e0 e1 e2 e3 e4 e5; obtain ⟨c0, c1, c2, c3, c4, c5, d0, d1, d2, d3, d4, d5, e0, e1, e2, e3, e4, e5⟩ := cells18 hg hj hk bn) | (go_at_call 120; refine (errNew_any _ _).mono ?_; rintro e w' ⟨⟨t9, p9, rfl⟩, hw⟩; have bn : Below w.heap.size w w' := (by rw [hw]; exact (by repeat (first | assumption | exact Below.refl _ _ | refine below_drewN ?_ _ | refine Below.drew ?_ | refine Below.alloc ?_ (by first | omega | (simp <;> omega)) _))); clear hw; have nn : w.heap.size ≤ w'.heap.size := bn.size))
    go_ret2
    exact ⟨_, rfl, bn⟩

end Go.Proofs.YtdlpcfhhpjjjmaaDoor
