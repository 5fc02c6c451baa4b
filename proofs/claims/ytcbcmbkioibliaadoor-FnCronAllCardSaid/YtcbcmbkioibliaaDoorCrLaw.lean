/- laws.FnCronItemRange, walked. -/
import Derived.Test.YtcbcmbkioibliaaDoorCrNum
import Derived.Deep.RegionHeld3
import Derived.BigQuiet
namespace Go.Proofs.YtcbcmbkioibliaaDoor
open Go.RowKit Go.Shelf
set_option linter.unusedVariables false
set_option linter.unusedSimpArgs false

/-- impl.CronItemIn answers v and r of the text t. -/
def ItemIs (t : ByteArray) (low high : Nat) (v : Nat) (r : Bool) : Prop :=
  ∀ W : World, Calls Tryd.prog 7 #[.int .u64 low, .int .u64 high, .string t] W fun e w' => e = .returned (.tuple #[.int .u64 v, .bool r]) ∧ Below W.heap.size W w'

theorem run_cat (x y : ByteArray) (h : x.size + y.size ≤ 9223372036854775807) (W : World) : (Op.stringOp .add x y).run Tryd.prog W = .ok (.string (x ++ y)) W := by
  unfold Op.stringOp
  have e : ¬ ((x.size + y.size : Nat) : Int) > IntKind.i64.max := by
    show ¬ ((x.size + y.size : Nat) : Int) > 9223372036854775807
    omega
  simp only [if_neg e]
  rfl
theorem cat_size (x y : ByteArray) (n m : Nat) (hx : x.size ≤ n) (hy : y.size ≤ m) : (x ++ y).size ≤ n + m := by
  rw [ByteArray.size_append]; omega

/-- strconv.Itoa answers the text A of the number u. -/
def ItoaIs (u : Nat) (A : ByteArray) : Prop := ∀ W : World, Hid (Tab10 W) → Calls Tryd.prog 6 #[.int .i64 u] W fun e w' => e = .returned (.string A) ∧ Below W.heap.size W w'

theorem boundsIn_any (low high : Int) (w : World) :
    Calls Tryd.prog 5 #[.int .u64 low, .int .u64 high] w fun e w' => e = .returned (.bool (decide (low ≤ high) && decide (high ≤ 62))) ∧ w = w' := by
  go_enter Tryd.func5, Tryd.ntmps5
  by_cases h1 : low ≤ high
  · have i1 : (low ≤ high) = True := by simp; exact h1
    go_wp2_with fail
    go_ret
    exact ⟨by simp [h1], rfl⟩
  · have i1 : (low ≤ high) = False := by simp; omega
    go_wp2_with fail
    go_ret
    exact ⟨by simp [h1], rfl⟩

set_option maxRecDepth 100000 in
set_option maxHeartbeats 4000000 in
theorem range_by (low high a b k : Nat) (hh : low ≤ high ∧ high ≤ 62) (ha : a < 9223372036854775808) (hb : b < 9223372036854775808) (hk : k ≤ 2147483648) (hx : b < a)
    (H1 : Hid (ItemIs (rangeT a b) low high 0 false)) (H2 : Hid (ItemIs (rangeT a b ++ ⟨#[47]⟩ ++ decT k) low high 0 false)) (w : World) (ht : Hid (Tab10 w)) :
    Calls Tryd.prog 3 #[.int .u64 low, .int .u64 high, .int .i64 a, .int .i64 b, .int .i64 k] w (fun e w' => e = .returned (.bool true) ∧ Below w.heap.size w w') := by
  have sa := decT_size a (by omega)
  have sb := decT_size b (by omega)
  have sk := decT_size k (by omega)
  obtain ⟨P1, HP1⟩ : ∃ P1, P1 = decT a ++ ⟨#[45]⟩ := ⟨_, rfl⟩
  obtain ⟨P2, HP2⟩ : ∃ P2, P2 = rangeT a b := ⟨_, rfl⟩
  obtain ⟨P3, HP3⟩ : ∃ P3, P3 = rangeT a b ++ ⟨#[47]⟩ := ⟨_, rfl⟩
  obtain ⟨P4, HP4⟩ : ∃ P4, P4 = rangeT a b ++ ⟨#[47]⟩ ++ decT k := ⟨_, rfl⟩
  have z1 : P1.size ≤ 21 := by rw [HP1]; exact cat_size _ _ 20 1 sa (Nat.le_refl 1)
  have z2 : P2.size ≤ 41 := by rw [HP2]; exact rangeT_size a b (by omega) (by omega)
  have z3 : P3.size ≤ 42 := by rw [HP3]; exact cat_size _ _ 41 1 (rangeT_size a b (by omega) (by omega)) (Nat.le_refl 1)
  have q1 : ∀ W, (Op.stringOp .add (decT a) ⟨#[45]⟩).run Tryd.prog W = .ok (.string P1) W := fun W => by rw [HP1]; exact run_cat _ _ (by have : (⟨#[45]⟩ : ByteArray).size = 1 := rfl; omega) W
  have q2 : ∀ W, (Op.stringOp .add P1 (decT b)).run Tryd.prog W = .ok (.string P2) W := fun W => by rw [run_cat _ _ (by omega) W, HP1, HP2]; rfl
  have q3 : ∀ W, (Op.stringOp .add P2 ⟨#[47]⟩).run Tryd.prog W = .ok (.string P3) W := fun W => by rw [run_cat _ _ (by have : (⟨#[47]⟩ : ByteArray).size = 1 := rfl; omega) W, HP2, HP3]
  have q4 : ∀ W, (Op.stringOp .add P3 (decT k)).run Tryd.prog W = .ok (.string P4) W := fun W => by rw [run_cat _ _ (by omega) W, HP3, HP4]
  rw [← HP2] at H1
  rw [← HP4] at H2
  have IA : Hid (ItoaIs a (decT a)) := fun W h => itoa_cr a ha W h
  have IB : Hid (ItoaIs b (decT b)) := fun W h => itoa_cr b hb W h
  have IK : Hid (ItoaIs k (decT k)) := fun W h => itoa_cr k (by omega) W h
  clear HP1 HP2 HP3 HP4
  generalize decT a = A at *
  generalize decT b = B at *
  generalize decT k = C at *
  have k1 : ((low : Int) ≤ (high : Int)) = True := by simp; omega
  have k2 : ((high : Int) ≤ 62) = True := by simp; omega
  have k3 : ((a : Int) < 0) = False := by simp
  have k4 : ((b : Int) < 0) = False := by simp
  have k5 : ((k : Int) < 0) = False := by simp
  have k6 : ((2147483648 : Int) < (k : Int)) = False := by simp; omega
  have m1 : (((b) : Int) < ((a) : Int)) = True := by simp; omega
  have hB : (decide ((low : Int) ≤ (high : Int)) && decide ((high : Int) ≤ 62)) = true := by simp; omega
  go_enter Tryd.func3, Tryd.ntmps3
  have bk : Below w.heap.size w w := Below.refl _ _
  have nk : w.heap.size ≤ w.heap.size := Nat.le_refl _
  go_wp2_with fail
  refine (boundsIn_any _ _ _).mono ?_
  rintro e w1 ⟨rfl, rfl⟩
  rw [hB]
  clear hB
  go_wp2_with fail
  refine (IA.out _ (ht.out.below (by repeat (first | (with_reducible assumption) | (with_reducible exact Below.refl _ _) | (with_reducible refine below_drewN ?_ _) | (with_reducible refine Below.drew ?_) | (with_reducible refine Below.alloc ?_ (by first | omega | (simp <;> omega)) _))))).mono ?_
  rintro e w2 ⟨rfl, hb2⟩
  replace bk : Below w.heap.size w w2 := Below.trans (by repeat (first | (with_reducible assumption) | (with_reducible exact Below.refl _ _) | (with_reducible refine below_drewN ?_ _) | (with_reducible refine Below.drew ?_) | (with_reducible refine Below.alloc ?_ (by first | omega | (simp <;> omega)) _))) (hb2.mono bk.size)
  replace nk : w.heap.size ≤ w2.heap.size := bk.size
  clear hb2
  go_wp2_with fail
  refine (IB.out _ (ht.out.below (by repeat (first | (with_reducible assumption) | (with_reducible exact Below.refl _ _) | (with_reducible refine below_drewN ?_ _) | (with_reducible refine Below.drew ?_) | (with_reducible refine Below.alloc ?_ (by first | omega | (simp <;> omega)) _))))).mono ?_
  rintro e w3 ⟨rfl, hb3⟩
  replace bk : Below w.heap.size w w3 := Below.trans (by repeat (first | (with_reducible assumption) | (with_reducible exact Below.refl _ _) | (with_reducible refine below_drewN ?_ _) | (with_reducible refine Below.drew ?_) | (with_reducible refine Below.alloc ?_ (by first | omega | (simp <;> omega)) _))) (hb3.mono bk.size)
  replace nk : w.heap.size ≤ w3.heap.size := bk.size
  clear hb3
  go_wp2_with fail
  refine (IK.out _ (ht.out.below (by repeat (first | (with_reducible assumption) | (with_reducible exact Below.refl _ _) | (with_reducible refine below_drewN ?_ _) | (with_reducible refine Below.drew ?_) | (with_reducible refine Below.alloc ?_ (by first | omega | (simp <;> omega)) _))))).mono ?_
  rintro e w4 ⟨rfl, hb4⟩
  replace bk : Below w.heap.size w w4 := Below.trans (by repeat (first | (with_reducible assumption) | (with_reducible exact Below.refl _ _) | (with_reducible refine below_drewN ?_ _) | (with_reducible refine Below.drew ?_) | (with_reducible refine Below.alloc ?_ (by first | omega | (simp <;> omega)) _))) (hb4.mono bk.size)
  replace nk : w.heap.size ≤ w4.heap.size := bk.size
  clear hb4
  go_wp2_with fail
  refine (H2.out _).mono ?_
  rintro e w5 ⟨rfl, hb5⟩
  replace bk : Below w.heap.size w w5 := Below.trans (by repeat (first | (with_reducible assumption) | (with_reducible exact Below.refl _ _) | (with_reducible refine below_drewN ?_ _) | (with_reducible refine Below.drew ?_) | (with_reducible refine Below.alloc ?_ (by first | omega | (simp <;> omega)) _))) (hb5.mono bk.size)
  replace nk : w.heap.size ≤ w5.heap.size := bk.size
  clear hb5
  go_wp2_with fail
  refine (H1.out _).mono ?_
  rintro e w6 ⟨rfl, hb6⟩
  replace bk : Below w.heap.size w w6 := Below.trans (by repeat (first | (with_reducible assumption) | (with_reducible exact Below.refl _ _) | (with_reducible refine below_drewN ?_ _) | (with_reducible refine Below.drew ?_) | (with_reducible refine Below.alloc ?_ (by first | omega | (simp <;> omega)) _))) (hb6.mono bk.size)
  replace nk : w.heap.size ≤ w6.heap.size := bk.size
  clear hb6
  go_wp2_with fail
  go_ret
  exact ⟨rfl, (by repeat (first | (with_reducible assumption) | (with_reducible exact Below.refl _ _) | (with_reducible refine below_drewN ?_ _) | (with_reducible refine Below.drew ?_) | (with_reducible refine Below.alloc ?_ (by first | omega | (simp <;> omega)) _)))⟩

set_option maxRecDepth 100000 in
set_option maxHeartbeats 4000000 in
theorem range_lo (low high a b k : Nat) (hh : low ≤ high ∧ high ≤ 62) (ha : a < 9223372036854775808) (hb : b < 9223372036854775808) (hk : k ≤ 2147483648) (hx : a ≤ b) (hy : a < low)
    (H1 : Hid (ItemIs (rangeT a b) low high 0 false)) (H2 : Hid (ItemIs (rangeT a b ++ ⟨#[47]⟩ ++ decT k) low high 0 false)) (w : World) (ht : Hid (Tab10 w)) :
    Calls Tryd.prog 3 #[.int .u64 low, .int .u64 high, .int .i64 a, .int .i64 b, .int .i64 k] w (fun e w' => e = .returned (.bool true) ∧ Below w.heap.size w w') := by
  have sa := decT_size a (by omega)
  have sb := decT_size b (by omega)
  have sk := decT_size k (by omega)
  obtain ⟨P1, HP1⟩ : ∃ P1, P1 = decT a ++ ⟨#[45]⟩ := ⟨_, rfl⟩
  obtain ⟨P2, HP2⟩ : ∃ P2, P2 = rangeT a b := ⟨_, rfl⟩
  obtain ⟨P3, HP3⟩ : ∃ P3, P3 = rangeT a b ++ ⟨#[47]⟩ := ⟨_, rfl⟩
  obtain ⟨P4, HP4⟩ : ∃ P4, P4 = rangeT a b ++ ⟨#[47]⟩ ++ decT k := ⟨_, rfl⟩
  have z1 : P1.size ≤ 21 := by rw [HP1]; exact cat_size _ _ 20 1 sa (Nat.le_refl 1)
  have z2 : P2.size ≤ 41 := by rw [HP2]; exact rangeT_size a b (by omega) (by omega)
  have z3 : P3.size ≤ 42 := by rw [HP3]; exact cat_size _ _ 41 1 (rangeT_size a b (by omega) (by omega)) (Nat.le_refl 1)
  have q1 : ∀ W, (Op.stringOp .add (decT a) ⟨#[45]⟩).run Tryd.prog W = .ok (.string P1) W := fun W => by rw [HP1]; exact run_cat _ _ (by have : (⟨#[45]⟩ : ByteArray).size = 1 := rfl; omega) W
  have q2 : ∀ W, (Op.stringOp .add P1 (decT b)).run Tryd.prog W = .ok (.string P2) W := fun W => by rw [run_cat _ _ (by omega) W, HP1, HP2]; rfl
  have q3 : ∀ W, (Op.stringOp .add P2 ⟨#[47]⟩).run Tryd.prog W = .ok (.string P3) W := fun W => by rw [run_cat _ _ (by have : (⟨#[47]⟩ : ByteArray).size = 1 := rfl; omega) W, HP2, HP3]
  have q4 : ∀ W, (Op.stringOp .add P3 (decT k)).run Tryd.prog W = .ok (.string P4) W := fun W => by rw [run_cat _ _ (by omega) W, HP3, HP4]
  rw [← HP2] at H1
  rw [← HP4] at H2
  have IA : Hid (ItoaIs a (decT a)) := fun W h => itoa_cr a ha W h
  have IB : Hid (ItoaIs b (decT b)) := fun W h => itoa_cr b hb W h
  have IK : Hid (ItoaIs k (decT k)) := fun W h => itoa_cr k (by omega) W h
  clear HP1 HP2 HP3 HP4
  generalize decT a = A at *
  generalize decT b = B at *
  generalize decT k = C at *
  have k1 : ((low : Int) ≤ (high : Int)) = True := by simp; omega
  have k2 : ((high : Int) ≤ 62) = True := by simp; omega
  have k3 : ((a : Int) < 0) = False := by simp
  have k4 : ((b : Int) < 0) = False := by simp
  have k5 : ((k : Int) < 0) = False := by simp
  have k6 : ((2147483648 : Int) < (k : Int)) = False := by simp; omega
  have m1 : (((b) : Int) < ((a) : Int)) = False := by simp; omega
  have m2 : (((a) : Int) < ((low) : Int)) = True := by simp; omega
  have hB : (decide ((low : Int) ≤ (high : Int)) && decide ((high : Int) ≤ 62)) = true := by simp; omega
  go_enter Tryd.func3, Tryd.ntmps3
  have bk : Below w.heap.size w w := Below.refl _ _
  have nk : w.heap.size ≤ w.heap.size := Nat.le_refl _
  go_wp2_with fail
  refine (boundsIn_any _ _ _).mono ?_
  rintro e w1 ⟨rfl, rfl⟩
  rw [hB]
  clear hB
  go_wp2_with fail
  refine (IA.out _ (ht.out.below (by repeat (first | (with_reducible assumption) | (with_reducible exact Below.refl _ _) | (with_reducible refine below_drewN ?_ _) | (with_reducible refine Below.drew ?_) | (with_reducible refine Below.alloc ?_ (by first | omega | (simp <;> omega)) _))))).mono ?_
  rintro e w2 ⟨rfl, hb2⟩
  replace bk : Below w.heap.size w w2 := Below.trans (by repeat (first | (with_reducible assumption) | (with_reducible exact Below.refl _ _) | (with_reducible refine below_drewN ?_ _) | (with_reducible refine Below.drew ?_) | (with_reducible refine Below.alloc ?_ (by first | omega | (simp <;> omega)) _))) (hb2.mono bk.size)
  replace nk : w.heap.size ≤ w2.heap.size := bk.size
  clear hb2
  go_wp2_with fail
  refine (IB.out _ (ht.out.below (by repeat (first | (with_reducible assumption) | (with_reducible exact Below.refl _ _) | (with_reducible refine below_drewN ?_ _) | (with_reducible refine Below.drew ?_) | (with_reducible refine Below.alloc ?_ (by first | omega | (simp <;> omega)) _))))).mono ?_
  rintro e w3 ⟨rfl, hb3⟩
  replace bk : Below w.heap.size w w3 := Below.trans (by repeat (first | (with_reducible assumption) | (with_reducible exact Below.refl _ _) | (with_reducible refine below_drewN ?_ _) | (with_reducible refine Below.drew ?_) | (with_reducible refine Below.alloc ?_ (by first | omega | (simp <;> omega)) _))) (hb3.mono bk.size)
  replace nk : w.heap.size ≤ w3.heap.size := bk.size
  clear hb3
  go_wp2_with fail
  refine (IK.out _ (ht.out.below (by repeat (first | (with_reducible assumption) | (with_reducible exact Below.refl _ _) | (with_reducible refine below_drewN ?_ _) | (with_reducible refine Below.drew ?_) | (with_reducible refine Below.alloc ?_ (by first | omega | (simp <;> omega)) _))))).mono ?_
  rintro e w4 ⟨rfl, hb4⟩
  replace bk : Below w.heap.size w w4 := Below.trans (by repeat (first | (with_reducible assumption) | (with_reducible exact Below.refl _ _) | (with_reducible refine below_drewN ?_ _) | (with_reducible refine Below.drew ?_) | (with_reducible refine Below.alloc ?_ (by first | omega | (simp <;> omega)) _))) (hb4.mono bk.size)
  replace nk : w.heap.size ≤ w4.heap.size := bk.size
  clear hb4
  go_wp2_with fail
  refine (H2.out _).mono ?_
  rintro e w5 ⟨rfl, hb5⟩
  replace bk : Below w.heap.size w w5 := Below.trans (by repeat (first | (with_reducible assumption) | (with_reducible exact Below.refl _ _) | (with_reducible refine below_drewN ?_ _) | (with_reducible refine Below.drew ?_) | (with_reducible refine Below.alloc ?_ (by first | omega | (simp <;> omega)) _))) (hb5.mono bk.size)
  replace nk : w.heap.size ≤ w5.heap.size := bk.size
  clear hb5
  go_wp2_with fail
  refine (H1.out _).mono ?_
  rintro e w6 ⟨rfl, hb6⟩
  replace bk : Below w.heap.size w w6 := Below.trans (by repeat (first | (with_reducible assumption) | (with_reducible exact Below.refl _ _) | (with_reducible refine below_drewN ?_ _) | (with_reducible refine Below.drew ?_) | (with_reducible refine Below.alloc ?_ (by first | omega | (simp <;> omega)) _))) (hb6.mono bk.size)
  replace nk : w.heap.size ≤ w6.heap.size := bk.size
  clear hb6
  go_wp2_with fail
  go_ret
  exact ⟨rfl, (by repeat (first | (with_reducible assumption) | (with_reducible exact Below.refl _ _) | (with_reducible refine below_drewN ?_ _) | (with_reducible refine Below.drew ?_) | (with_reducible refine Below.alloc ?_ (by first | omega | (simp <;> omega)) _)))⟩

set_option maxRecDepth 100000 in
set_option maxHeartbeats 4000000 in
theorem range_hi (low high a b k : Nat) (hh : low ≤ high ∧ high ≤ 62) (ha : a < 9223372036854775808) (hb : b < 9223372036854775808) (hk : k ≤ 2147483648) (hx : a ≤ b) (hy : low ≤ a) (hz : high < b)
    (H1 : Hid (ItemIs (rangeT a b) low high 0 false)) (H2 : Hid (ItemIs (rangeT a b ++ ⟨#[47]⟩ ++ decT k) low high 0 false)) (w : World) (ht : Hid (Tab10 w)) :
    Calls Tryd.prog 3 #[.int .u64 low, .int .u64 high, .int .i64 a, .int .i64 b, .int .i64 k] w (fun e w' => e = .returned (.bool true) ∧ Below w.heap.size w w') := by
  have sa := decT_size a (by omega)
  have sb := decT_size b (by omega)
  have sk := decT_size k (by omega)
  obtain ⟨P1, HP1⟩ : ∃ P1, P1 = decT a ++ ⟨#[45]⟩ := ⟨_, rfl⟩
  obtain ⟨P2, HP2⟩ : ∃ P2, P2 = rangeT a b := ⟨_, rfl⟩
  obtain ⟨P3, HP3⟩ : ∃ P3, P3 = rangeT a b ++ ⟨#[47]⟩ := ⟨_, rfl⟩
  obtain ⟨P4, HP4⟩ : ∃ P4, P4 = rangeT a b ++ ⟨#[47]⟩ ++ decT k := ⟨_, rfl⟩
  have z1 : P1.size ≤ 21 := by rw [HP1]; exact cat_size _ _ 20 1 sa (Nat.le_refl 1)
  have z2 : P2.size ≤ 41 := by rw [HP2]; exact rangeT_size a b (by omega) (by omega)
  have z3 : P3.size ≤ 42 := by rw [HP3]; exact cat_size _ _ 41 1 (rangeT_size a b (by omega) (by omega)) (Nat.le_refl 1)
  have q1 : ∀ W, (Op.stringOp .add (decT a) ⟨#[45]⟩).run Tryd.prog W = .ok (.string P1) W := fun W => by rw [HP1]; exact run_cat _ _ (by have : (⟨#[45]⟩ : ByteArray).size = 1 := rfl; omega) W
  have q2 : ∀ W, (Op.stringOp .add P1 (decT b)).run Tryd.prog W = .ok (.string P2) W := fun W => by rw [run_cat _ _ (by omega) W, HP1, HP2]; rfl
  have q3 : ∀ W, (Op.stringOp .add P2 ⟨#[47]⟩).run Tryd.prog W = .ok (.string P3) W := fun W => by rw [run_cat _ _ (by have : (⟨#[47]⟩ : ByteArray).size = 1 := rfl; omega) W, HP2, HP3]
  have q4 : ∀ W, (Op.stringOp .add P3 (decT k)).run Tryd.prog W = .ok (.string P4) W := fun W => by rw [run_cat _ _ (by omega) W, HP3, HP4]
  rw [← HP2] at H1
  rw [← HP4] at H2
  have IA : Hid (ItoaIs a (decT a)) := fun W h => itoa_cr a ha W h
  have IB : Hid (ItoaIs b (decT b)) := fun W h => itoa_cr b hb W h
  have IK : Hid (ItoaIs k (decT k)) := fun W h => itoa_cr k (by omega) W h
  clear HP1 HP2 HP3 HP4
  generalize decT a = A at *
  generalize decT b = B at *
  generalize decT k = C at *
  have k1 : ((low : Int) ≤ (high : Int)) = True := by simp; omega
  have k2 : ((high : Int) ≤ 62) = True := by simp; omega
  have k3 : ((a : Int) < 0) = False := by simp
  have k4 : ((b : Int) < 0) = False := by simp
  have k5 : ((k : Int) < 0) = False := by simp
  have k6 : ((2147483648 : Int) < (k : Int)) = False := by simp; omega
  have m1 : (((b) : Int) < ((a) : Int)) = False := by simp; omega
  have m2 : (((a) : Int) < ((low) : Int)) = False := by simp; omega
  have m3 : (((high) : Int) < ((b) : Int)) = True := by simp; omega
  have hB : (decide ((low : Int) ≤ (high : Int)) && decide ((high : Int) ≤ 62)) = true := by simp; omega
  go_enter Tryd.func3, Tryd.ntmps3
  have bk : Below w.heap.size w w := Below.refl _ _
  have nk : w.heap.size ≤ w.heap.size := Nat.le_refl _
  go_wp2_with fail
  refine (boundsIn_any _ _ _).mono ?_
  rintro e w1 ⟨rfl, rfl⟩
  rw [hB]
  clear hB
  go_wp2_with fail
  refine (IA.out _ (ht.out.below (by repeat (first | (with_reducible assumption) | (with_reducible exact Below.refl _ _) | (with_reducible refine below_drewN ?_ _) | (with_reducible refine Below.drew ?_) | (with_reducible refine Below.alloc ?_ (by first | omega | (simp <;> omega)) _))))).mono ?_
  rintro e w2 ⟨rfl, hb2⟩
  replace bk : Below w.heap.size w w2 := Below.trans (by repeat (first | (with_reducible assumption) | (with_reducible exact Below.refl _ _) | (with_reducible refine below_drewN ?_ _) | (with_reducible refine Below.drew ?_) | (with_reducible refine Below.alloc ?_ (by first | omega | (simp <;> omega)) _))) (hb2.mono bk.size)
  replace nk : w.heap.size ≤ w2.heap.size := bk.size
  clear hb2
  go_wp2_with fail
  refine (IB.out _ (ht.out.below (by repeat (first | (with_reducible assumption) | (with_reducible exact Below.refl _ _) | (with_reducible refine below_drewN ?_ _) | (with_reducible refine Below.drew ?_) | (with_reducible refine Below.alloc ?_ (by first | omega | (simp <;> omega)) _))))).mono ?_
  rintro e w3 ⟨rfl, hb3⟩
  replace bk : Below w.heap.size w w3 := Below.trans (by repeat (first | (with_reducible assumption) | (with_reducible exact Below.refl _ _) | (with_reducible refine below_drewN ?_ _) | (with_reducible refine Below.drew ?_) | (with_reducible refine Below.alloc ?_ (by first | omega | (simp <;> omega)) _))) (hb3.mono bk.size)
  replace nk : w.heap.size ≤ w3.heap.size := bk.size
  clear hb3
  go_wp2_with fail
  refine (IK.out _ (ht.out.below (by repeat (first | (with_reducible assumption) | (with_reducible exact Below.refl _ _) | (with_reducible refine below_drewN ?_ _) | (with_reducible refine Below.drew ?_) | (with_reducible refine Below.alloc ?_ (by first | omega | (simp <;> omega)) _))))).mono ?_
  rintro e w4 ⟨rfl, hb4⟩
  replace bk : Below w.heap.size w w4 := Below.trans (by repeat (first | (with_reducible assumption) | (with_reducible exact Below.refl _ _) | (with_reducible refine below_drewN ?_ _) | (with_reducible refine Below.drew ?_) | (with_reducible refine Below.alloc ?_ (by first | omega | (simp <;> omega)) _))) (hb4.mono bk.size)
  replace nk : w.heap.size ≤ w4.heap.size := bk.size
  clear hb4
  go_wp2_with fail
  refine (H2.out _).mono ?_
  rintro e w5 ⟨rfl, hb5⟩
  replace bk : Below w.heap.size w w5 := Below.trans (by repeat (first | (with_reducible assumption) | (with_reducible exact Below.refl _ _) | (with_reducible refine below_drewN ?_ _) | (with_reducible refine Below.drew ?_) | (with_reducible refine Below.alloc ?_ (by first | omega | (simp <;> omega)) _))) (hb5.mono bk.size)
  replace nk : w.heap.size ≤ w5.heap.size := bk.size
  clear hb5
  go_wp2_with fail
  refine (H1.out _).mono ?_
  rintro e w6 ⟨rfl, hb6⟩
  replace bk : Below w.heap.size w w6 := Below.trans (by repeat (first | (with_reducible assumption) | (with_reducible exact Below.refl _ _) | (with_reducible refine below_drewN ?_ _) | (with_reducible refine Below.drew ?_) | (with_reducible refine Below.alloc ?_ (by first | omega | (simp <;> omega)) _))) (hb6.mono bk.size)
  replace nk : w.heap.size ≤ w6.heap.size := bk.size
  clear hb6
  go_wp2_with fail
  go_ret
  exact ⟨rfl, (by repeat (first | (with_reducible assumption) | (with_reducible exact Below.refl _ _) | (with_reducible refine below_drewN ?_ _) | (with_reducible refine Below.drew ?_) | (with_reducible refine Below.alloc ?_ (by first | omega | (simp <;> omega)) _)))⟩

set_option maxRecDepth 100000 in
set_option maxHeartbeats 4000000 in
theorem range_k0 (low high a b k : Nat) (hh : low ≤ high ∧ high ≤ 62) (ha : a < 9223372036854775808) (hb : b < 9223372036854775808) (hk : k ≤ 2147483648) (hx : a ≤ b) (hy : low ≤ a) (hz : b ≤ high) (h0 : Hid (k = 0))
    (H1 : Hid (ItemIs (rangeT a b) low high (GB a b 1) true)) (H2 : Hid (ItemIs (rangeT a b ++ ⟨#[47]⟩ ++ decT k) low high 0 false)) (w : World) (ht : Hid (Tab10 w)) :
    Calls Tryd.prog 3 #[.int .u64 low, .int .u64 high, .int .i64 a, .int .i64 b, .int .i64 k] w (fun e w' => e = .returned (.bool true) ∧ Below w.heap.size w w') := by
  have sa := decT_size a (by omega)
  have sb := decT_size b (by omega)
  have sk := decT_size k (by omega)
  obtain ⟨P1, HP1⟩ : ∃ P1, P1 = decT a ++ ⟨#[45]⟩ := ⟨_, rfl⟩
  obtain ⟨P2, HP2⟩ : ∃ P2, P2 = rangeT a b := ⟨_, rfl⟩
  obtain ⟨P3, HP3⟩ : ∃ P3, P3 = rangeT a b ++ ⟨#[47]⟩ := ⟨_, rfl⟩
  obtain ⟨P4, HP4⟩ : ∃ P4, P4 = rangeT a b ++ ⟨#[47]⟩ ++ decT k := ⟨_, rfl⟩
  have z1 : P1.size ≤ 21 := by rw [HP1]; exact cat_size _ _ 20 1 sa (Nat.le_refl 1)
  have z2 : P2.size ≤ 41 := by rw [HP2]; exact rangeT_size a b (by omega) (by omega)
  have z3 : P3.size ≤ 42 := by rw [HP3]; exact cat_size _ _ 41 1 (rangeT_size a b (by omega) (by omega)) (Nat.le_refl 1)
  have q1 : ∀ W, (Op.stringOp .add (decT a) ⟨#[45]⟩).run Tryd.prog W = .ok (.string P1) W := fun W => by rw [HP1]; exact run_cat _ _ (by have : (⟨#[45]⟩ : ByteArray).size = 1 := rfl; omega) W
  have q2 : ∀ W, (Op.stringOp .add P1 (decT b)).run Tryd.prog W = .ok (.string P2) W := fun W => by rw [run_cat _ _ (by omega) W, HP1, HP2]; rfl
  have q3 : ∀ W, (Op.stringOp .add P2 ⟨#[47]⟩).run Tryd.prog W = .ok (.string P3) W := fun W => by rw [run_cat _ _ (by have : (⟨#[47]⟩ : ByteArray).size = 1 := rfl; omega) W, HP2, HP3]
  have q4 : ∀ W, (Op.stringOp .add P3 (decT k)).run Tryd.prog W = .ok (.string P4) W := fun W => by rw [run_cat _ _ (by omega) W, HP3, HP4]
  rw [← HP2] at H1
  rw [← HP4] at H2
  have IA : Hid (ItoaIs a (decT a)) := fun W h => itoa_cr a ha W h
  have IB : Hid (ItoaIs b (decT b)) := fun W h => itoa_cr b hb W h
  have IK : Hid (ItoaIs k (decT k)) := fun W h => itoa_cr k (by omega) W h
  clear HP1 HP2 HP3 HP4
  generalize decT a = A at *
  generalize decT b = B at *
  generalize decT k = C at *
  have k1 : ((low : Int) ≤ (high : Int)) = True := by simp; omega
  have k2 : ((high : Int) ≤ 62) = True := by simp; omega
  have k3 : ((a : Int) < 0) = False := by simp
  have k4 : ((b : Int) < 0) = False := by simp
  have k5 : ((k : Int) < 0) = False := by simp
  have k6 : ((2147483648 : Int) < (k : Int)) = False := by simp; omega
  have m1 : (((b) : Int) < ((a) : Int)) = False := by simp; omega
  have m2 : (((a) : Int) < ((low) : Int)) = False := by simp; omega
  have m3 : (((high) : Int) < ((b) : Int)) = False := by simp; omega
  have m4 : ((k : Int) == 0) = true := by have := h0.out; simp; omega
  have m5 : ((k : Int) = 0) = True := by have := h0.out; simp; omega
  have hB : (decide ((low : Int) ≤ (high : Int)) && decide ((high : Int) ≤ 62)) = true := by simp; omega
  go_enter Tryd.func3, Tryd.ntmps3
  have bk : Below w.heap.size w w := Below.refl _ _
  have nk : w.heap.size ≤ w.heap.size := Nat.le_refl _
  go_wp2_with fail
  refine (boundsIn_any _ _ _).mono ?_
  rintro e w1 ⟨rfl, rfl⟩
  rw [hB]
  clear hB
  go_wp2_with fail
  refine (IA.out _ (ht.out.below (by repeat (first | (with_reducible assumption) | (with_reducible exact Below.refl _ _) | (with_reducible refine below_drewN ?_ _) | (with_reducible refine Below.drew ?_) | (with_reducible refine Below.alloc ?_ (by first | omega | (simp <;> omega)) _))))).mono ?_
  rintro e w2 ⟨rfl, hb2⟩
  replace bk : Below w.heap.size w w2 := Below.trans (by repeat (first | (with_reducible assumption) | (with_reducible exact Below.refl _ _) | (with_reducible refine below_drewN ?_ _) | (with_reducible refine Below.drew ?_) | (with_reducible refine Below.alloc ?_ (by first | omega | (simp <;> omega)) _))) (hb2.mono bk.size)
  replace nk : w.heap.size ≤ w2.heap.size := bk.size
  clear hb2
  go_wp2_with fail
  refine (IB.out _ (ht.out.below (by repeat (first | (with_reducible assumption) | (with_reducible exact Below.refl _ _) | (with_reducible refine below_drewN ?_ _) | (with_reducible refine Below.drew ?_) | (with_reducible refine Below.alloc ?_ (by first | omega | (simp <;> omega)) _))))).mono ?_
  rintro e w3 ⟨rfl, hb3⟩
  replace bk : Below w.heap.size w w3 := Below.trans (by repeat (first | (with_reducible assumption) | (with_reducible exact Below.refl _ _) | (with_reducible refine below_drewN ?_ _) | (with_reducible refine Below.drew ?_) | (with_reducible refine Below.alloc ?_ (by first | omega | (simp <;> omega)) _))) (hb3.mono bk.size)
  replace nk : w.heap.size ≤ w3.heap.size := bk.size
  clear hb3
  go_wp2_with fail
  refine (IK.out _ (ht.out.below (by repeat (first | (with_reducible assumption) | (with_reducible exact Below.refl _ _) | (with_reducible refine below_drewN ?_ _) | (with_reducible refine Below.drew ?_) | (with_reducible refine Below.alloc ?_ (by first | omega | (simp <;> omega)) _))))).mono ?_
  rintro e w4 ⟨rfl, hb4⟩
  replace bk : Below w.heap.size w w4 := Below.trans (by repeat (first | (with_reducible assumption) | (with_reducible exact Below.refl _ _) | (with_reducible refine below_drewN ?_ _) | (with_reducible refine Below.drew ?_) | (with_reducible refine Below.alloc ?_ (by first | omega | (simp <;> omega)) _))) (hb4.mono bk.size)
  replace nk : w.heap.size ≤ w4.heap.size := bk.size
  clear hb4
  go_wp2_with fail
  refine (H2.out _).mono ?_
  rintro e w5 ⟨rfl, hb5⟩
  replace bk : Below w.heap.size w w5 := Below.trans (by repeat (first | (with_reducible assumption) | (with_reducible exact Below.refl _ _) | (with_reducible refine below_drewN ?_ _) | (with_reducible refine Below.drew ?_) | (with_reducible refine Below.alloc ?_ (by first | omega | (simp <;> omega)) _))) (hb5.mono bk.size)
  replace nk : w.heap.size ≤ w5.heap.size := bk.size
  clear hb5
  go_wp2_with fail
  refine (H1.out _).mono ?_
  rintro e w6 ⟨rfl, hb6⟩
  replace bk : Below w.heap.size w w6 := Below.trans (by repeat (first | (with_reducible assumption) | (with_reducible exact Below.refl _ _) | (with_reducible refine below_drewN ?_ _) | (with_reducible refine Below.drew ?_) | (with_reducible refine Below.alloc ?_ (by first | omega | (simp <;> omega)) _))) (hb6.mono bk.size)
  replace nk : w.heap.size ≤ w6.heap.size := bk.size
  clear hb6
  go_wp2_with fail
  refine (cronBits_any a b 1 hx (by omega) (by omega) (by omega) _).mono ?_
  rintro e w7 ⟨rfl, rfl⟩
  go_wp2_with fail
  go_ret
  exact ⟨rfl, (by repeat (first | (with_reducible assumption) | (with_reducible exact Below.refl _ _) | (with_reducible refine below_drewN ?_ _) | (with_reducible refine Below.drew ?_) | (with_reducible refine Below.alloc ?_ (by first | omega | (simp <;> omega)) _)))⟩

set_option maxRecDepth 100000 in
set_option maxHeartbeats 4000000 in
theorem range_kp (low high a b k : Nat) (hh : low ≤ high ∧ high ≤ 62) (ha : a < 9223372036854775808) (hb : b < 9223372036854775808) (hk : k ≤ 2147483648) (hx : a ≤ b) (hy : low ≤ a) (hz : b ≤ high) (h0 : 1 ≤ k)
    (H1 : Hid (ItemIs (rangeT a b) low high (GB a b 1) true)) (H2 : Hid (ItemIs (rangeT a b ++ ⟨#[47]⟩ ++ decT k) low high (GB a b k) true)) (w : World) (ht : Hid (Tab10 w)) :
    Calls Tryd.prog 3 #[.int .u64 low, .int .u64 high, .int .i64 a, .int .i64 b, .int .i64 k] w (fun e w' => e = .returned (.bool true) ∧ Below w.heap.size w w') := by
  have sa := decT_size a (by omega)
  have sb := decT_size b (by omega)
  have sk := decT_size k (by omega)
  obtain ⟨P1, HP1⟩ : ∃ P1, P1 = decT a ++ ⟨#[45]⟩ := ⟨_, rfl⟩
  obtain ⟨P2, HP2⟩ : ∃ P2, P2 = rangeT a b := ⟨_, rfl⟩
  obtain ⟨P3, HP3⟩ : ∃ P3, P3 = rangeT a b ++ ⟨#[47]⟩ := ⟨_, rfl⟩
  obtain ⟨P4, HP4⟩ : ∃ P4, P4 = rangeT a b ++ ⟨#[47]⟩ ++ decT k := ⟨_, rfl⟩
  have z1 : P1.size ≤ 21 := by rw [HP1]; exact cat_size _ _ 20 1 sa (Nat.le_refl 1)
  have z2 : P2.size ≤ 41 := by rw [HP2]; exact rangeT_size a b (by omega) (by omega)
  have z3 : P3.size ≤ 42 := by rw [HP3]; exact cat_size _ _ 41 1 (rangeT_size a b (by omega) (by omega)) (Nat.le_refl 1)
  have q1 : ∀ W, (Op.stringOp .add (decT a) ⟨#[45]⟩).run Tryd.prog W = .ok (.string P1) W := fun W => by rw [HP1]; exact run_cat _ _ (by have : (⟨#[45]⟩ : ByteArray).size = 1 := rfl; omega) W
  have q2 : ∀ W, (Op.stringOp .add P1 (decT b)).run Tryd.prog W = .ok (.string P2) W := fun W => by rw [run_cat _ _ (by omega) W, HP1, HP2]; rfl
  have q3 : ∀ W, (Op.stringOp .add P2 ⟨#[47]⟩).run Tryd.prog W = .ok (.string P3) W := fun W => by rw [run_cat _ _ (by have : (⟨#[47]⟩ : ByteArray).size = 1 := rfl; omega) W, HP2, HP3]
  have q4 : ∀ W, (Op.stringOp .add P3 (decT k)).run Tryd.prog W = .ok (.string P4) W := fun W => by rw [run_cat _ _ (by omega) W, HP3, HP4]
  rw [← HP2] at H1
  rw [← HP4] at H2
  have IA : Hid (ItoaIs a (decT a)) := fun W h => itoa_cr a ha W h
  have IB : Hid (ItoaIs b (decT b)) := fun W h => itoa_cr b hb W h
  have IK : Hid (ItoaIs k (decT k)) := fun W h => itoa_cr k (by omega) W h
  clear HP1 HP2 HP3 HP4
  generalize decT a = A at *
  generalize decT b = B at *
  generalize decT k = C at *
  have k1 : ((low : Int) ≤ (high : Int)) = True := by simp; omega
  have k2 : ((high : Int) ≤ 62) = True := by simp; omega
  have k3 : ((a : Int) < 0) = False := by simp
  have k4 : ((b : Int) < 0) = False := by simp
  have k5 : ((k : Int) < 0) = False := by simp
  have k6 : ((2147483648 : Int) < (k : Int)) = False := by simp; omega
  have m1 : (((b) : Int) < ((a) : Int)) = False := by simp; omega
  have m2 : (((a) : Int) < ((low) : Int)) = False := by simp; omega
  have m3 : (((high) : Int) < ((b) : Int)) = False := by simp; omega
  have m4 : ((k : Int) == 0) = false := by simp; omega
  have m5 : ((k : Int) = 0) = False := by simp; omega
  have hB : (decide ((low : Int) ≤ (high : Int)) && decide ((high : Int) ≤ 62)) = true := by simp; omega
  go_enter Tryd.func3, Tryd.ntmps3
  have bk : Below w.heap.size w w := Below.refl _ _
  have nk : w.heap.size ≤ w.heap.size := Nat.le_refl _
  go_wp2_with fail
  refine (boundsIn_any _ _ _).mono ?_
  rintro e w1 ⟨rfl, rfl⟩
  rw [hB]
  clear hB
  go_wp2_with fail
  refine (IA.out _ (ht.out.below (by repeat (first | (with_reducible assumption) | (with_reducible exact Below.refl _ _) | (with_reducible refine below_drewN ?_ _) | (with_reducible refine Below.drew ?_) | (with_reducible refine Below.alloc ?_ (by first | omega | (simp <;> omega)) _))))).mono ?_
  rintro e w2 ⟨rfl, hb2⟩
  replace bk : Below w.heap.size w w2 := Below.trans (by repeat (first | (with_reducible assumption) | (with_reducible exact Below.refl _ _) | (with_reducible refine below_drewN ?_ _) | (with_reducible refine Below.drew ?_) | (with_reducible refine Below.alloc ?_ (by first | omega | (simp <;> omega)) _))) (hb2.mono bk.size)
  replace nk : w.heap.size ≤ w2.heap.size := bk.size
  clear hb2
  go_wp2_with fail
  refine (IB.out _ (ht.out.below (by repeat (first | (with_reducible assumption) | (with_reducible exact Below.refl _ _) | (with_reducible refine below_drewN ?_ _) | (with_reducible refine Below.drew ?_) | (with_reducible refine Below.alloc ?_ (by first | omega | (simp <;> omega)) _))))).mono ?_
  rintro e w3 ⟨rfl, hb3⟩
  replace bk : Below w.heap.size w w3 := Below.trans (by repeat (first | (with_reducible assumption) | (with_reducible exact Below.refl _ _) | (with_reducible refine below_drewN ?_ _) | (with_reducible refine Below.drew ?_) | (with_reducible refine Below.alloc ?_ (by first | omega | (simp <;> omega)) _))) (hb3.mono bk.size)
  replace nk : w.heap.size ≤ w3.heap.size := bk.size
  clear hb3
  go_wp2_with fail
  refine (IK.out _ (ht.out.below (by repeat (first | (with_reducible assumption) | (with_reducible exact Below.refl _ _) | (with_reducible refine below_drewN ?_ _) | (with_reducible refine Below.drew ?_) | (with_reducible refine Below.alloc ?_ (by first | omega | (simp <;> omega)) _))))).mono ?_
  rintro e w4 ⟨rfl, hb4⟩
  replace bk : Below w.heap.size w w4 := Below.trans (by repeat (first | (with_reducible assumption) | (with_reducible exact Below.refl _ _) | (with_reducible refine below_drewN ?_ _) | (with_reducible refine Below.drew ?_) | (with_reducible refine Below.alloc ?_ (by first | omega | (simp <;> omega)) _))) (hb4.mono bk.size)
  replace nk : w.heap.size ≤ w4.heap.size := bk.size
  clear hb4
  go_wp2_with fail
  refine (H2.out _).mono ?_
  rintro e w5 ⟨rfl, hb5⟩
  replace bk : Below w.heap.size w w5 := Below.trans (by repeat (first | (with_reducible assumption) | (with_reducible exact Below.refl _ _) | (with_reducible refine below_drewN ?_ _) | (with_reducible refine Below.drew ?_) | (with_reducible refine Below.alloc ?_ (by first | omega | (simp <;> omega)) _))) (hb5.mono bk.size)
  replace nk : w.heap.size ≤ w5.heap.size := bk.size
  clear hb5
  go_wp2_with fail
  refine (H1.out _).mono ?_
  rintro e w6 ⟨rfl, hb6⟩
  replace bk : Below w.heap.size w w6 := Below.trans (by repeat (first | (with_reducible assumption) | (with_reducible exact Below.refl _ _) | (with_reducible refine below_drewN ?_ _) | (with_reducible refine Below.drew ?_) | (with_reducible refine Below.alloc ?_ (by first | omega | (simp <;> omega)) _))) (hb6.mono bk.size)
  replace nk : w.heap.size ≤ w6.heap.size := bk.size
  clear hb6
  go_wp2_with fail
  refine (cronBits_any a b 1 hx (by omega) (by omega) (by omega) _).mono ?_
  rintro e w7 ⟨rfl, rfl⟩
  go_wp2_with fail
  refine (cronBits_any a b k hx (by omega) h0 (by omega) _).mono ?_
  rintro e w8 ⟨rfl, rfl⟩
  go_wp2_with fail
  go_ret
  exact ⟨rfl, (by repeat (first | (with_reducible assumption) | (with_reducible exact Below.refl _ _) | (with_reducible refine below_drewN ?_ _) | (with_reducible refine Below.drew ?_) | (with_reducible refine Below.alloc ?_ (by first | omega | (simp <;> omega)) _)))⟩

set_option maxRecDepth 100000 in
set_option maxHeartbeats 4000000 in
theorem out_0 (low high a b k : Int) (hB : (decide (low ≤ high) && decide (high ≤ 62)) = false) (w : World) :
    Calls Tryd.prog 3 #[.int .u64 low, .int .u64 high, .int .i64 a, .int .i64 b, .int .i64 k] w (fun e w' => e = .returned (.bool true) ∧ Below w.heap.size w w') := by
  go_enter Tryd.func3, Tryd.ntmps3
  go_wp2_with fail
  refine (boundsIn_any _ _ _).mono ?_
  rintro e w1 ⟨rfl, rfl⟩
  rw [hB]
  clear hB
  go_wp2_with fail
  go_ret
  exact ⟨rfl, Below.refl _ _⟩

set_option maxRecDepth 100000 in
set_option maxHeartbeats 4000000 in
theorem out_1 (low high a b k : Int) (hB : (decide (low ≤ high) && decide (high ≤ 62)) = true) (h1 : a < 0) (w : World) :
    Calls Tryd.prog 3 #[.int .u64 low, .int .u64 high, .int .i64 a, .int .i64 b, .int .i64 k] w (fun e w' => e = .returned (.bool true) ∧ Below w.heap.size w w') := by
  have k1 : ((a : Int) < 0) = True := by simp; omega
  go_enter Tryd.func3, Tryd.ntmps3
  go_wp2_with fail
  refine (boundsIn_any _ _ _).mono ?_
  rintro e w1 ⟨rfl, rfl⟩
  rw [hB]
  clear hB
  go_wp2_with fail
  go_ret
  exact ⟨rfl, Below.refl _ _⟩

set_option maxRecDepth 100000 in
set_option maxHeartbeats 4000000 in
theorem out_2 (low high a b k : Int) (hB : (decide (low ≤ high) && decide (high ≤ 62)) = true) (h1 : 0 ≤ a) (h2 : b < 0) (w : World) :
    Calls Tryd.prog 3 #[.int .u64 low, .int .u64 high, .int .i64 a, .int .i64 b, .int .i64 k] w (fun e w' => e = .returned (.bool true) ∧ Below w.heap.size w w') := by
  have k1 : ((a : Int) < 0) = False := by simp; omega
  have k2 : ((b : Int) < 0) = True := by simp; omega
  go_enter Tryd.func3, Tryd.ntmps3
  go_wp2_with fail
  refine (boundsIn_any _ _ _).mono ?_
  rintro e w1 ⟨rfl, rfl⟩
  rw [hB]
  clear hB
  go_wp2_with fail
  go_ret
  exact ⟨rfl, Below.refl _ _⟩

set_option maxRecDepth 100000 in
set_option maxHeartbeats 4000000 in
theorem out_3 (low high a b k : Int) (hB : (decide (low ≤ high) && decide (high ≤ 62)) = true) (h1 : 0 ≤ a) (h2 : 0 ≤ b) (h3 : k < 0) (w : World) :
    Calls Tryd.prog 3 #[.int .u64 low, .int .u64 high, .int .i64 a, .int .i64 b, .int .i64 k] w (fun e w' => e = .returned (.bool true) ∧ Below w.heap.size w w') := by
  have k1 : ((a : Int) < 0) = False := by simp; omega
  have k2 : ((b : Int) < 0) = False := by simp; omega
  have k3 : ((k : Int) < 0) = True := by simp; omega
  go_enter Tryd.func3, Tryd.ntmps3
  go_wp2_with fail
  refine (boundsIn_any _ _ _).mono ?_
  rintro e w1 ⟨rfl, rfl⟩
  rw [hB]
  clear hB
  go_wp2_with fail
  go_ret
  exact ⟨rfl, Below.refl _ _⟩

set_option maxRecDepth 100000 in
set_option maxHeartbeats 4000000 in
theorem out_4 (low high a b k : Int) (hB : (decide (low ≤ high) && decide (high ≤ 62)) = true) (h1 : 0 ≤ a) (h2 : 0 ≤ b) (h3 : 2147483648 < k) (w : World) :
    Calls Tryd.prog 3 #[.int .u64 low, .int .u64 high, .int .i64 a, .int .i64 b, .int .i64 k] w (fun e w' => e = .returned (.bool true) ∧ Below w.heap.size w w') := by
  have k1 : ((a : Int) < 0) = False := by simp; omega
  have k2 : ((b : Int) < 0) = False := by simp; omega
  have k3 : ((k : Int) < 0) = False := by simp; omega
  have k4 : ((2147483648 : Int) < k) = True := by simp; omega
  go_enter Tryd.func3, Tryd.ntmps3
  go_wp2_with fail
  refine (boundsIn_any _ _ _).mono ?_
  rintro e w1 ⟨rfl, rfl⟩
  rw [hB]
  clear hB
  go_wp2_with fail
  go_ret
  exact ⟨rfl, Below.refl _ _⟩

end Go.Proofs.YtcbcmbkioibliaaDoor
