/- laws.snAs, snAsked at a tilde, zzFits13; spec.GoodTerm and spec.Spoken together. -/
import Derived.Test.YtdlpcfhhpjjjmaaDoorGoodTermA
import Derived.Test.YtdlpcfhhpjjjmaaDoorGoodTermB
import Derived.Test.YtdlpcfhhpjjjmaaDoorGoodTermC
import Derived.Test.YtdlpcfhhpjjjmaaDoorSpCmp
import Derived.Test.YtdlpcfhhpjjjmaaDoorWPreInv
namespace Go.Proofs.YtdlpcfhhpjjjmaaDoor
open Go.RowKit
set_option linter.unusedVariables false
set_option linter.unusedSimpArgs false

theorem goodTerm_any (o g a b c : Int) (p : ByteArray) (hp : p.size ≤ 2147483653) (w : World) :
    Calls Tryd.prog 31 #[.agg (termC o g a b c p)] w (GoodPost (TermOk o g a b c p) w) := by
  by_cases h1 : g < 0
  · exact goodTerm_lo o g a b c p h1 w
  · by_cases h2 : 3 < g
    · exact goodTerm_hi o g a b c p h2 w
    · have h3 : g = 0 ∨ g = 1 ∨ g = 2 ∨ g = 3 := by omega
      rcases h3 with rfl | rfl | rfl | rfl
      · exact goodTerm_0 o a b c p hp w
      · exact goodTerm_1 o a b c p hp w
      · exact goodTerm_2 o a b c p hp w
      · exact goodTerm_3 o a b c p hp w

set_option maxHeartbeats 1000000 in
theorem snAs_any (o g a b c op : Int) (p : ByteArray) (w : World) :
    Calls Tryd.prog 66 #[.agg (termC o g a b c p), .int .i64 op] w fun e w' => e = .returned (.agg (termC op g a b c p)) ∧ w' = (w.alloc (.cells (termC op g a b c p) 36)).alloc (.cells (termC op g a b c p) 36) := by
  go_enter Tryd.func66, Tryd.ntmps66
  go_wp2_with fail
  refine bodyPost_ret (v := .agg (termC op g a b c p)) (by simp [results, Tryd.results66, go_sem]) rfl ⟨rfl, ?_⟩
  rfl

theorem fits13_any (o g a b c : Int) (p : ByteArray) (bb : Bool) (h : decide (p.size ≤ 2147483647) = bb) (w : World) :
    Calls Tryd.prog 25 #[.agg (termC o g a b c p)] w fun e w' => e = .returned (.bool bb) ∧ w' = w.alloc (.cells (termC o g a b c p) 36) := by
  subst h
  by_cases h1 : 2147483647 < p.size
  · have e1 : decide (p.size ≤ 2147483647) = false := decide_eq_false (by omega)
    rw [e1]
    clear e1
    go_enter Tryd.func25, Tryd.ntmps25
    go_wp2_with fail
    go_ret
    exact ⟨rfl, rfl⟩
  · have e1 : decide (p.size ≤ 2147483647) = true := decide_eq_true (by omega)
    rw [e1]
    clear e1
    go_enter Tryd.func25, Tryd.ntmps25
    go_wp2_with fail
    go_ret
    exact ⟨rfl, rfl⟩

set_option maxRecDepth 100000 in
set_option maxHeartbeats 2000000 in
theorem spoken_6 (g a b c x y z : Int) (p q n : ByteArray) (w : World) :
    Calls Tryd.prog 67 #[.agg (termC 6 g a b c p), .agg (plainC x y z q n)] w (GoodPost True w) := by
  go_enter Tryd.func67, Tryd.ntmps67
  go_wp2_with fail
  all_goals
    go_ret
    exact ⟨_, rfl, (by repeat (first | (with_reducible assumption) | (with_reducible exact Below.refl _ _) | (with_reducible refine below_drewN ?_ _) | (with_reducible refine Below.drew ?_) | (with_reducible refine Below.alloc ?_ (by first | omega | (simp <;> omega)) _))), fun _ => trivial⟩

set_option maxRecDepth 100000 in
set_option maxHeartbeats 4000000 in
theorem snAsked_6 (o g a b c x y z : Int) (p q n : ByteArray) (hp : p.size ≤ 2147483653) (hq : q.size ≤ 2147483647) (hn : n.size ≤ 2147483647) (w : World) :
    Calls Tryd.prog 26 #[.agg (termC o g a b c p), .int .i64 6, .agg (plainC x y z q n)] w (GoodPost (TermOk 6 g a b c p ∧ goodAll [(x, y, z, q, n)] = true) w) := by
  obtain ⟨bg, HBG⟩ : ∃ bg, Hid (goodAll [(x, y, z, q, n)] = bg) := ⟨_, rfl⟩
  go_enter Tryd.func26, Tryd.ntmps26
  go_wp2_with fail
  refine (snAs_any _ _ _ _ _ _ _ _).mono ?_
  rintro e w1 ⟨rfl, rfl⟩
  go_wp2_with fail
  refine (goodTerm_any 6 g a b c p hp _).mono ?_
  rintro e w1 ⟨r1, rfl, hb, h1⟩
  have t0 : w1.cell? ⟨w.heap.size, 0, none⟩ = some (.int .i64 6) := by
    refine keepB hb (by first | omega | (simp <;> omega)) ?_
    exact keepV (keepV (keepV (TermAt w _ _ rfl 0)))
  have t1 : w1.cell? ⟨w.heap.size, 1, none⟩ = some (.int .i64 g) := by
    refine keepB hb (by first | omega | (simp <;> omega)) ?_
    exact keepV (keepV (keepV (TermAt w _ _ rfl 1)))
  have t2 : w1.cell? ⟨w.heap.size, 2, none⟩ = some (.int .u64 a) := by
    refine keepB hb (by first | omega | (simp <;> omega)) ?_
    exact keepV (keepV (keepV (TermAt w _ _ rfl 2)))
  have t3 : w1.cell? ⟨w.heap.size, 3, none⟩ = some (.int .u64 b) := by
    refine keepB hb (by first | omega | (simp <;> omega)) ?_
    exact keepV (keepV (keepV (TermAt w _ _ rfl 3)))
  have t4 : w1.cell? ⟨w.heap.size, 4, none⟩ = some (.int .u64 c) := by
    refine keepB hb (by first | omega | (simp <;> omega)) ?_
    exact keepV (keepV (keepV (TermAt w _ _ rfl 4)))
  have t5 : w1.cell? ⟨w.heap.size, 5, none⟩ = some (.string p) := by
    refine keepB hb (by first | omega | (simp <;> omega)) ?_
    exact keepV (keepV (keepV (TermAt w _ _ rfl 5)))
  have v0 : w1.cell? ⟨w.heap.size + 1, 0, none⟩ = some (.int .u64 x) := by
    refine keepB hb (by first | omega | (simp <;> omega)) ?_
    exact keepV (keepV ((plainAt_last _ _ _ (by simp)).cell 0))
  have v1 : w1.cell? ⟨w.heap.size + 1, 1, none⟩ = some (.int .u64 y) := by
    refine keepB hb (by first | omega | (simp <;> omega)) ?_
    exact keepV (keepV ((plainAt_last _ _ _ (by simp)).cell 1))
  have v2 : w1.cell? ⟨w.heap.size + 1, 2, none⟩ = some (.int .u64 z) := by
    refine keepB hb (by first | omega | (simp <;> omega)) ?_
    exact keepV (keepV ((plainAt_last _ _ _ (by simp)).cell 2))
  have v3 : w1.cell? ⟨w.heap.size + 1, 3, none⟩ = some (.string q) := by
    refine keepB hb (by first | omega | (simp <;> omega)) ?_
    exact keepV (keepV ((plainAt_last _ _ _ (by simp)).cell 3))
  have v4 : w1.cell? ⟨w.heap.size + 1, 4, none⟩ = some (.string n) := by
    refine keepB hb (by first | omega | (simp <;> omega)) ?_
    exact keepV (keepV ((plainAt_last _ _ _ (by simp)).cell 4))
  have bk : Below w.heap.size w w1 := Below.trans (by repeat (first | (with_reducible assumption) | (with_reducible exact Below.refl _ _) | (with_reducible refine below_drewN ?_ _) | (with_reducible refine Below.drew ?_) | (with_reducible refine Below.alloc ?_ (by first | omega | (simp <;> omega)) _))) (hb.mono (by first | omega | (simp <;> omega)))
  have nk : w.heap.size + 2 ≤ w1.heap.size := by have := hb.size; first | omega | (simp at this; omega)
  clear hb
  cases r1 with
  | false =>
    go_wp2_with fail
    go_ret
    exact ⟨_, rfl, bk, fun h => absurd h (by decide)⟩
  | true =>
    go_wp2_with fail
    refine (svGood_any _ 1 [(x, y, z, q, n)] (by simp) (by simp) (fun i => by rcases i with _ | i <;> first | exact ⟨hq, hn⟩ | exact ⟨Nat.zero_le _, Nat.zero_le _⟩) _ (by first | omega | (simp <;> omega)) (row1 _ _ (by simp) (x, y, z, q, n))).mono ?_
    rintro e w2 ⟨rfl, hb⟩
    rw [HBG.out]
    have t0 : w2.cell? ⟨w.heap.size, 0, none⟩ = some (.int .i64 6) := by
      refine keepB hb (by first | omega | (simp <;> omega)) ?_
      (repeat (first | assumption | (with_reducible refine keepD ?_) | (with_reducible refine keepN ?_) | (with_reducible refine keepV ?_)))
    have t1 : w2.cell? ⟨w.heap.size, 1, none⟩ = some (.int .i64 g) := by
      refine keepB hb (by first | omega | (simp <;> omega)) ?_
      (repeat (first | assumption | (with_reducible refine keepD ?_) | (with_reducible refine keepN ?_) | (with_reducible refine keepV ?_)))
    have t2 : w2.cell? ⟨w.heap.size, 2, none⟩ = some (.int .u64 a) := by
      refine keepB hb (by first | omega | (simp <;> omega)) ?_
      (repeat (first | assumption | (with_reducible refine keepD ?_) | (with_reducible refine keepN ?_) | (with_reducible refine keepV ?_)))
    have t3 : w2.cell? ⟨w.heap.size, 3, none⟩ = some (.int .u64 b) := by
      refine keepB hb (by first | omega | (simp <;> omega)) ?_
      (repeat (first | assumption | (with_reducible refine keepD ?_) | (with_reducible refine keepN ?_) | (with_reducible refine keepV ?_)))
    have t4 : w2.cell? ⟨w.heap.size, 4, none⟩ = some (.int .u64 c) := by
      refine keepB hb (by first | omega | (simp <;> omega)) ?_
      (repeat (first | assumption | (with_reducible refine keepD ?_) | (with_reducible refine keepN ?_) | (with_reducible refine keepV ?_)))
    have t5 : w2.cell? ⟨w.heap.size, 5, none⟩ = some (.string p) := by
      refine keepB hb (by first | omega | (simp <;> omega)) ?_
      (repeat (first | assumption | (with_reducible refine keepD ?_) | (with_reducible refine keepN ?_) | (with_reducible refine keepV ?_)))
    have v0 : w2.cell? ⟨w.heap.size + 1, 0, none⟩ = some (.int .u64 x) := by
      refine keepB hb (by first | omega | (simp <;> omega)) ?_
      (repeat (first | assumption | (with_reducible refine keepD ?_) | (with_reducible refine keepN ?_) | (with_reducible refine keepV ?_)))
    have v1 : w2.cell? ⟨w.heap.size + 1, 1, none⟩ = some (.int .u64 y) := by
      refine keepB hb (by first | omega | (simp <;> omega)) ?_
      (repeat (first | assumption | (with_reducible refine keepD ?_) | (with_reducible refine keepN ?_) | (with_reducible refine keepV ?_)))
    have v2 : w2.cell? ⟨w.heap.size + 1, 2, none⟩ = some (.int .u64 z) := by
      refine keepB hb (by first | omega | (simp <;> omega)) ?_
      (repeat (first | assumption | (with_reducible refine keepD ?_) | (with_reducible refine keepN ?_) | (with_reducible refine keepV ?_)))
    have v3 : w2.cell? ⟨w.heap.size + 1, 3, none⟩ = some (.string q) := by
      refine keepB hb (by first | omega | (simp <;> omega)) ?_
      (repeat (first | assumption | (with_reducible refine keepD ?_) | (with_reducible refine keepN ?_) | (with_reducible refine keepV ?_)))
    have v4 : w2.cell? ⟨w.heap.size + 1, 4, none⟩ = some (.string n) := by
      refine keepB hb (by first | omega | (simp <;> omega)) ?_
      (repeat (first | assumption | (with_reducible refine keepD ?_) | (with_reducible refine keepN ?_) | (with_reducible refine keepV ?_)))
    have bk : Below w.heap.size w w2 := Below.trans (by repeat (first | (with_reducible assumption) | (with_reducible exact Below.refl _ _) | (with_reducible refine below_drewN ?_ _) | (with_reducible refine Below.drew ?_) | (with_reducible refine Below.alloc ?_ (by first | omega | (simp <;> omega)) _))) (hb.mono (by first | omega | (simp <;> omega)))
    have nk : w.heap.size + 2 ≤ w2.heap.size := by have := hb.size; first | omega | (simp at this; omega)
    clear hb
    cases bg with
    | false =>
      go_wp2_with fail
      go_ret
      exact ⟨_, rfl, bk, fun h => absurd h (by decide)⟩
    | true =>
      go_wp2_with fail
      refine (spoken_6 _ _ _ _ _ _ _ _ _ _ _).mono ?_
      rintro e w3 ⟨r3, rfl, hb, _⟩
      go_wp2_with fail
      go_ret
      exact ⟨_, rfl, bk.trans (hb.mono bk.size), fun _ => ⟨h1 (by first | rfl | trivial), HBG.out⟩⟩
end Go.Proofs.YtdlpcfhhpjjjmaaDoor
