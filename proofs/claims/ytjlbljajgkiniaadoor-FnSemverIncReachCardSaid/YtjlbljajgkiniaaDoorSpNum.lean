/- spec.CompareNumbers, spec.Compare. -/
import Derived.Test.YtjlbljajgkiniaaDoorSpecPreB
import Derived.Test.YtjlbljajgkiniaaDoorVerOps
namespace Go.Proofs.YtjlbljajgkiniaaDoor
open Go.RowKit
set_option linter.unusedVariables false
set_option linter.unusedSimpArgs false

/-- The first k numbers compared. -/
def numI (k a b c x y z : Int) : Int :=
  if k ≤ 0 then 0 else if segI a x = 0 then (if k ≤ 1 then 0 else if segI b y = 0 then (if k ≤ 2 then 0 else segI c z) else segI b y) else segI a x

def numR (n : Nat) (a b c x y z : Int) : Prop := (1 ≤ n → segI a x = 0) ∧ (2 ≤ n → segI b y = 0) ∧ (3 ≤ n → segI c z = 0)

theorem num_end (n : Nat) (k a b c x y z : Int) (h : numR n a b c x y z) (hk : ((n : Int) = k ∨ (n = 0 ∧ k ≤ 0)) ∨ (n = 3 ∧ 3 ≤ k)) : numI k a b c x y z = 0 := by
  obtain ⟨h1, h2, h3⟩ := h
  unfold numI
  by_cases k0 : k ≤ 0
  · rw [if_pos k0]
  · rw [if_neg k0, if_pos (h1 (by omega))]
    by_cases k1 : k ≤ 1
    · rw [if_pos k1]
    · rw [if_neg k1, if_pos (h2 (by omega))]
      by_cases k2 : k ≤ 2
      · rw [if_pos k2]
      · rw [if_neg k2, h3 (by omega)]
theorem num_0 (k a b c x y z s : Int) (hk : 0 < k) (hs : segI a x = s) (h : s ≠ 0) : numI k a b c x y z = s := by
  unfold numI; rw [if_neg (by omega), if_neg (by omega), hs]
theorem num_1 (k a b c x y z s : Int) (hk : 1 < k) (h1 : segI a x = 0) (hs : segI b y = s) (h : s ≠ 0) : numI k a b c x y z = s := by
  unfold numI; rw [if_neg (by omega), if_pos h1, if_neg (by omega), if_neg (by omega), hs]
theorem num_2 (k a b c x y z s : Int) (hk : 2 < k) (h1 : segI a x = 0) (h2 : segI b y = 0) (hs : segI c z = s) (h : s ≠ 0) : numI k a b c x y z = s := by
  unfold numI; rw [if_neg (by omega), if_pos h1, if_neg (by omega), if_pos h2, if_neg (by omega), hs]
/-- Block g is an array of three numbers. -/
def ArrAt (w : World) (g : Nat) (cs : Array Value) : Prop := w.heap[g]? = some (.cells cs 29 (0, 0))
theorem ArrAt.lt {w : World} {g : Nat} {cs : Array Value} (h : ArrAt w g cs) : g < w.heap.size := (Array.getElem?_eq_some_iff.1 h).1
theorem ArrAt.cell {w : World} {g : Nat} {cs : Array Value} (h : ArrAt w g cs) (i : Nat) : w.cell? ⟨g, i, none⟩ = cs[i]? := cell_of_row w g i cs _ (0, 0) h
theorem arrAt_last (W : World) (cs : Array Value) (n : Nat) (hn : n = W.heap.size) : ArrAt (W.alloc (.cells cs 29)) n cs := by subst hn; exact heap_alloc_new W _
theorem ArrAt.alloc {W : World} {g : Nat} {cs : Array Value} (h : ArrAt W g cs) (o : Obj) : ArrAt (W.alloc o) g cs := (Below.heap_alloc W o g h.lt).trans h
theorem ArrAt.drew' {W : World} {g : Nat} {cs : Array Value} (h : ArrAt W g cs) : ArrAt W.drew g cs := h
theorem ArrAt.drewN' {W : World} {g : Nat} {cs : Array Value} (h : ArrAt W g cs) (k : Nat) : ArrAt (W.drewN k) g cs := h
theorem ret_int {x y : Int} (h : x = y) : Ending.returned (.int .i64 x) = .returned (.int .i64 y) := by rw [h]

set_option maxRecDepth 100000 in
set_option maxHeartbeats 8000000 in
theorem spNumbers_any (k a b c x y z : Int) (p m q n : ByteArray) (w : World) :
    Calls Tryd.prog 19 #[.agg (plainC a b c p m), .agg (plainC x y z q n), .int .i64 k] w (PartPost (numI k a b c x y z) w) := by
  go_enter Tryd.func19, Tryd.ntmps19
  go_wp2_with fail
  refine wp_named ?_
  intro W0 hW0
  have c0 : W0.cell? ⟨w.heap.size, 0, none⟩ = some (.int .u64 a) := by rw [← hW0]; exact ((plainAt_last _ _ _ rfl).alloc _ : PlainAt _ _ _).cell 0
  have c1 : W0.cell? ⟨w.heap.size, 1, none⟩ = some (.int .u64 b) := by rw [← hW0]; exact ((plainAt_last _ _ _ rfl).alloc _ : PlainAt _ _ _).cell 1
  have c2 : W0.cell? ⟨w.heap.size, 2, none⟩ = some (.int .u64 c) := by rw [← hW0]; exact ((plainAt_last _ _ _ rfl).alloc _ : PlainAt _ _ _).cell 2
  have d0 : W0.cell? ⟨w.heap.size + 1, 0, none⟩ = some (.int .u64 x) := by rw [← hW0]; exact (plainAt_last _ _ _ (by simp) : PlainAt _ _ _).cell 0
  have d1 : W0.cell? ⟨w.heap.size + 1, 1, none⟩ = some (.int .u64 y) := by rw [← hW0]; exact (plainAt_last _ _ _ (by simp) : PlainAt _ _ _).cell 1
  have d2 : W0.cell? ⟨w.heap.size + 1, 2, none⟩ = some (.int .u64 z) := by rw [← hW0]; exact (plainAt_last _ _ _ (by simp) : PlainAt _ _ _).cell 2
  have b0 : Below w.heap.size w W0 := by rw [← hW0]; exact (by repeat (first | (with_reducible assumption) | (with_reducible exact Below.refl _ _) | (with_reducible refine below_drewN ?_ _) | (with_reducible refine Below.drew ?_) | (with_reducible refine Below.setCell ?_ (by first | omega | (simp <;> omega)) _) | (with_reducible refine Below.alloc ?_ (by first | omega | (simp <;> omega)) _)))
  have n0 : w.heap.size + 2 ≤ W0.heap.size := by rw [← hW0]; simp
  clear hW0
  go_region_held3 (fun w' => w'.cell? ⟨w.heap.size, 0, none⟩ = some (.int .u64 a) ∧ w'.cell? ⟨w.heap.size, 1, none⟩ = some (.int .u64 b) ∧ w'.cell? ⟨w.heap.size, 2, none⟩ = some (.int .u64 c) ∧ w'.cell? ⟨w.heap.size + 1, 0, none⟩ = some (.int .u64 x) ∧ w'.cell? ⟨w.heap.size + 1, 1, none⟩ = some (.int .u64 y) ∧ w'.cell? ⟨w.heap.size + 1, 2, none⟩ = some (.int .u64 z)) (first | (refine ⟨?_, ?_, ?_, ?_, ?_, ?_⟩ <;> (repeat (first | assumption | (with_reducible refine keepD ?_) | (with_reducible refine keepN ?_) | (with_reducible refine keepV ?_)))) | go_keep) (fail)
  all_goals go_wp2_with fail
  · refine wp_named ?_
    intro W1 hW1
    have bW : Below w.heap.size w W1 := by rw [← hW1]; exact (by repeat (first | (with_reducible assumption) | (with_reducible exact Below.refl _ _) | (with_reducible refine below_drewN ?_ _) | (with_reducible refine Below.drew ?_) | (with_reducible refine Below.setCell ?_ (by first | omega | (simp <;> omega)) _) | (with_reducible refine Below.alloc ?_ (by first | omega | (simp <;> omega)) _)))
    have A1 : ArrAt W1 (W0.heap.size) #[.int .u64 a, .int .u64 b, .int .u64 c] := by rw [← hW1]; exact ((arrAt_last _ _ _ rfl).alloc _).drew'
    have B1 : ArrAt W1 (W0.heap.size + 1) #[.int .u64 x, .int .u64 y, .int .u64 z] := by rw [← hW1]; exact (arrAt_last _ _ _ (by simp)).drew'
    clear hW1 c0 c1 c2 d0 d1 d2
    generalize W0.heap.size = G0 at *
    go_loopw [9] (fun i wr => ∃ j : Nat, j ≤ 3 ∧ i = .int .i64 j ∧ ((j : Int) ≤ k ∨ j = 0) ∧ Hid (numR j a b c x y z) ∧ Hid (ArrAt wr (G0) #[.int .u64 a, .int .u64 b, .int .u64 c]) ∧ Hid (ArrAt wr (G0 + 1) #[.int .u64 x, .int .u64 y, .int .u64 z]) ∧ Below w.heap.size w wr) (fun i _ => 3 - (intOf i).toNat)
    case atStart => exact ⟨0, by omega, rfl, .inr rfl, ⟨by omega, by omega, by omega⟩, A1, B1, bW⟩
    case round =>
      obtain ⟨j, hj, rfl, hjk, hrec, hA, hB, hbr⟩ := hrel
      clear A1 B1
      rcases j with _ | _ | _ | j
      · have x0 : wr.cell? ⟨G0, 0, none⟩ = some (.int .u64 a) := hA.out.cell 0
        have y0 : wr.cell? ⟨G0 + 1, 0, none⟩ = some (.int .u64 x) := hB.out.cell 0
        by_cases hk : (0 : Int) < k
        · obtain ⟨s, HS⟩ : ∃ s, Hid (segI a x = s) := ⟨_, rfl⟩
          go_wp2_with fail
          go_region_held3 (fun w' => w'.cell? ⟨G0, 0, none⟩ = some (.int .u64 a) ∧ w'.cell? ⟨G0 + 1, 0, none⟩ = some (.int .u64 x)) (first | (refine ⟨?_, ?_⟩ <;> (repeat (first | assumption | (with_reducible refine keepD ?_) | (with_reducible refine keepN ?_) | (with_reducible refine keepV ?_)))) | go_keep)
            (first | (go_at_call 36; refine (order_any _ _ _).mono ?_; rintro e w' ⟨rfl, rfl⟩; rw [HS.out]))
          by_cases hs : s = 0
          · subst hs
            go_wp2_with fail
            go_roundw
            case rel => exact ⟨1, by omega, by go_num, by omega, (show numR 1 a b c x y z from ⟨fun _ => HS.out, by omega, by omega⟩), hA.out.drew', hB.out.drew', Below.drew hbr⟩
            case measure => simp [intOf]
          · have hs2 : (s = 0) = False := by simp; exact hs
            go_wp2_with fail
            go_ret
            exact ⟨ret_int (num_0 k a b c x y z s hk HS.out hs).symm, Below.drew hbr⟩
        · have hk2 : ((0 : Int) < k) = False := by simp; omega
          go_wp2_with fail
          go_ret
          exact ⟨ret_int (num_end 0 k a b c x y z hrec.out (by omega)).symm, hbr⟩
      · have x0 : wr.cell? ⟨G0, 1, none⟩ = some (.int .u64 b) := hA.out.cell 1
        have y0 : wr.cell? ⟨G0 + 1, 1, none⟩ = some (.int .u64 y) := hB.out.cell 1
        by_cases hk : (1 : Int) < k
        · obtain ⟨s, HS⟩ : ∃ s, Hid (segI b y = s) := ⟨_, rfl⟩
          go_wp2_with fail
          go_region_held3 (fun w' => w'.cell? ⟨G0, 1, none⟩ = some (.int .u64 b) ∧ w'.cell? ⟨G0 + 1, 1, none⟩ = some (.int .u64 y)) (first | (refine ⟨?_, ?_⟩ <;> (repeat (first | assumption | (with_reducible refine keepD ?_) | (with_reducible refine keepN ?_) | (with_reducible refine keepV ?_)))) | go_keep)
            (first | (go_at_call 36; refine (order_any _ _ _).mono ?_; rintro e w' ⟨rfl, rfl⟩; rw [HS.out]))
          by_cases hs : s = 0
          · subst hs
            go_wp2_with fail
            go_roundw
            case rel => exact ⟨2, by omega, by go_num, by omega, (show numR 2 a b c x y z from ⟨fun _ => hrec.out.1 (by omega), fun _ => HS.out, by omega⟩), hA.out.drew', hB.out.drew', Below.drew hbr⟩
            case measure => simp [intOf]
          · have hs2 : (s = 0) = False := by simp; exact hs
            go_wp2_with fail
            go_ret
            exact ⟨ret_int (num_1 k a b c x y z s hk (hrec.out.1 (by omega)) HS.out hs).symm, Below.drew hbr⟩
        · have hk2 : ((1 : Int) < k) = False := by simp; omega
          go_wp2_with fail
          go_ret
          exact ⟨ret_int (num_end 1 k a b c x y z hrec.out (by omega)).symm, hbr⟩
      · have x0 : wr.cell? ⟨G0, 2, none⟩ = some (.int .u64 c) := hA.out.cell 2
        have y0 : wr.cell? ⟨G0 + 1, 2, none⟩ = some (.int .u64 z) := hB.out.cell 2
        by_cases hk : (2 : Int) < k
        · obtain ⟨s, HS⟩ : ∃ s, Hid (segI c z = s) := ⟨_, rfl⟩
          go_wp2_with fail
          go_region_held3 (fun w' => w'.cell? ⟨G0, 2, none⟩ = some (.int .u64 c) ∧ w'.cell? ⟨G0 + 1, 2, none⟩ = some (.int .u64 z)) (first | (refine ⟨?_, ?_⟩ <;> (repeat (first | assumption | (with_reducible refine keepD ?_) | (with_reducible refine keepN ?_) | (with_reducible refine keepV ?_)))) | go_keep)
            (first | (go_at_call 36; refine (order_any _ _ _).mono ?_; rintro e w' ⟨rfl, rfl⟩; rw [HS.out]))
          by_cases hs : s = 0
          · subst hs
            go_wp2_with fail
            go_roundw
            case rel => exact ⟨3, by omega, by go_num, by omega, (show numR 3 a b c x y z from ⟨fun _ => hrec.out.1 (by omega), fun _ => hrec.out.2.1 (by omega), fun _ => HS.out⟩), hA.out.drew', hB.out.drew', Below.drew hbr⟩
            case measure => simp [intOf]
          · have hs2 : (s = 0) = False := by simp; exact hs
            go_wp2_with fail
            go_ret
            exact ⟨ret_int (num_2 k a b c x y z s hk (hrec.out.1 (by omega)) (hrec.out.2.1 (by omega)) HS.out hs).symm, Below.drew hbr⟩
        · have hk2 : ((2 : Int) < k) = False := by simp; omega
          go_wp2_with fail
          go_ret
          exact ⟨ret_int (num_end 2 k a b c x y z hrec.out (by omega)).symm, hbr⟩
      · obtain rfl : j = 0 := by omega
        go_wp2_with fail
        all_goals
          go_ret
          exact ⟨ret_int (num_end 3 k a b c x y z hrec.out (by omega)).symm, hbr⟩
  · refine wp_named ?_
    intro W1 hW1
    have bW : Below w.heap.size w W1 := by rw [← hW1]; exact (by repeat (first | (with_reducible assumption) | (with_reducible exact Below.refl _ _) | (with_reducible refine below_drewN ?_ _) | (with_reducible refine Below.drew ?_) | (with_reducible refine Below.setCell ?_ (by first | omega | (simp <;> omega)) _) | (with_reducible refine Below.alloc ?_ (by first | omega | (simp <;> omega)) _)))
    have A1 : ArrAt W1 (W0.heap.size + 1) #[.int .u64 a, .int .u64 b, .int .u64 c] := by rw [← hW1]; exact (arrAt_last _ _ _ (by simp)).drew'
    have B1 : ArrAt W1 (W0.heap.size) #[.int .u64 x, .int .u64 y, .int .u64 z] := by rw [← hW1]; exact ((arrAt_last _ _ _ rfl).alloc _).drew'
    clear hW1 c0 c1 c2 d0 d1 d2
    generalize W0.heap.size = G0 at *
    go_loopw [9] (fun i wr => ∃ j : Nat, j ≤ 3 ∧ i = .int .i64 j ∧ ((j : Int) ≤ k ∨ j = 0) ∧ Hid (numR j a b c x y z) ∧ Hid (ArrAt wr (G0 + 1) #[.int .u64 a, .int .u64 b, .int .u64 c]) ∧ Hid (ArrAt wr (G0) #[.int .u64 x, .int .u64 y, .int .u64 z]) ∧ Below w.heap.size w wr) (fun i _ => 3 - (intOf i).toNat)
    case atStart => exact ⟨0, by omega, rfl, .inr rfl, ⟨by omega, by omega, by omega⟩, A1, B1, bW⟩
    case round =>
      obtain ⟨j, hj, rfl, hjk, hrec, hA, hB, hbr⟩ := hrel
      clear A1 B1
      rcases j with _ | _ | _ | j
      · have x0 : wr.cell? ⟨G0 + 1, 0, none⟩ = some (.int .u64 a) := hA.out.cell 0
        have y0 : wr.cell? ⟨G0, 0, none⟩ = some (.int .u64 x) := hB.out.cell 0
        by_cases hk : (0 : Int) < k
        · obtain ⟨s, HS⟩ : ∃ s, Hid (segI a x = s) := ⟨_, rfl⟩
          go_wp2_with fail
          go_region_held3 (fun w' => w'.cell? ⟨G0 + 1, 0, none⟩ = some (.int .u64 a) ∧ w'.cell? ⟨G0, 0, none⟩ = some (.int .u64 x)) (first | (refine ⟨?_, ?_⟩ <;> (repeat (first | assumption | (with_reducible refine keepD ?_) | (with_reducible refine keepN ?_) | (with_reducible refine keepV ?_)))) | go_keep)
            (first | (go_at_call 36; refine (order_any _ _ _).mono ?_; rintro e w' ⟨rfl, rfl⟩; rw [HS.out]))
          by_cases hs : s = 0
          · subst hs
            go_wp2_with fail
            go_roundw
            case rel => exact ⟨1, by omega, by go_num, by omega, (show numR 1 a b c x y z from ⟨fun _ => HS.out, by omega, by omega⟩), hA.out.drew', hB.out.drew', Below.drew hbr⟩
            case measure => simp [intOf]
          · have hs2 : (s = 0) = False := by simp; exact hs
            go_wp2_with fail
            go_ret
            exact ⟨ret_int (num_0 k a b c x y z s hk HS.out hs).symm, Below.drew hbr⟩
        · have hk2 : ((0 : Int) < k) = False := by simp; omega
          go_wp2_with fail
          go_ret
          exact ⟨ret_int (num_end 0 k a b c x y z hrec.out (by omega)).symm, hbr⟩
      · have x0 : wr.cell? ⟨G0 + 1, 1, none⟩ = some (.int .u64 b) := hA.out.cell 1
        have y0 : wr.cell? ⟨G0, 1, none⟩ = some (.int .u64 y) := hB.out.cell 1
        by_cases hk : (1 : Int) < k
        · obtain ⟨s, HS⟩ : ∃ s, Hid (segI b y = s) := ⟨_, rfl⟩
          go_wp2_with fail
          go_region_held3 (fun w' => w'.cell? ⟨G0 + 1, 1, none⟩ = some (.int .u64 b) ∧ w'.cell? ⟨G0, 1, none⟩ = some (.int .u64 y)) (first | (refine ⟨?_, ?_⟩ <;> (repeat (first | assumption | (with_reducible refine keepD ?_) | (with_reducible refine keepN ?_) | (with_reducible refine keepV ?_)))) | go_keep)
            (first | (go_at_call 36; refine (order_any _ _ _).mono ?_; rintro e w' ⟨rfl, rfl⟩; rw [HS.out]))
          by_cases hs : s = 0
          · subst hs
            go_wp2_with fail
            go_roundw
            case rel => exact ⟨2, by omega, by go_num, by omega, (show numR 2 a b c x y z from ⟨fun _ => hrec.out.1 (by omega), fun _ => HS.out, by omega⟩), hA.out.drew', hB.out.drew', Below.drew hbr⟩
            case measure => simp [intOf]
          · have hs2 : (s = 0) = False := by simp; exact hs
            go_wp2_with fail
            go_ret
            exact ⟨ret_int (num_1 k a b c x y z s hk (hrec.out.1 (by omega)) HS.out hs).symm, Below.drew hbr⟩
        · have hk2 : ((1 : Int) < k) = False := by simp; omega
          go_wp2_with fail
          go_ret
          exact ⟨ret_int (num_end 1 k a b c x y z hrec.out (by omega)).symm, hbr⟩
      · have x0 : wr.cell? ⟨G0 + 1, 2, none⟩ = some (.int .u64 c) := hA.out.cell 2
        have y0 : wr.cell? ⟨G0, 2, none⟩ = some (.int .u64 z) := hB.out.cell 2
        by_cases hk : (2 : Int) < k
        · obtain ⟨s, HS⟩ : ∃ s, Hid (segI c z = s) := ⟨_, rfl⟩
          go_wp2_with fail
          go_region_held3 (fun w' => w'.cell? ⟨G0 + 1, 2, none⟩ = some (.int .u64 c) ∧ w'.cell? ⟨G0, 2, none⟩ = some (.int .u64 z)) (first | (refine ⟨?_, ?_⟩ <;> (repeat (first | assumption | (with_reducible refine keepD ?_) | (with_reducible refine keepN ?_) | (with_reducible refine keepV ?_)))) | go_keep)
            (first | (go_at_call 36; refine (order_any _ _ _).mono ?_; rintro e w' ⟨rfl, rfl⟩; rw [HS.out]))
          by_cases hs : s = 0
          · subst hs
            go_wp2_with fail
            go_roundw
            case rel => exact ⟨3, by omega, by go_num, by omega, (show numR 3 a b c x y z from ⟨fun _ => hrec.out.1 (by omega), fun _ => hrec.out.2.1 (by omega), fun _ => HS.out⟩), hA.out.drew', hB.out.drew', Below.drew hbr⟩
            case measure => simp [intOf]
          · have hs2 : (s = 0) = False := by simp; exact hs
            go_wp2_with fail
            go_ret
            exact ⟨ret_int (num_2 k a b c x y z s hk (hrec.out.1 (by omega)) (hrec.out.2.1 (by omega)) HS.out hs).symm, Below.drew hbr⟩
        · have hk2 : ((2 : Int) < k) = False := by simp; omega
          go_wp2_with fail
          go_ret
          exact ⟨ret_int (num_end 2 k a b c x y z hrec.out (by omega)).symm, hbr⟩
      · obtain rfl : j = 0 := by omega
        go_wp2_with fail
        all_goals
          go_ret
          exact ⟨ret_int (num_end 3 k a b c x y z hrec.out (by omega)).symm, hbr⟩
end Go.Proofs.YtjlbljajgkiniaaDoor
