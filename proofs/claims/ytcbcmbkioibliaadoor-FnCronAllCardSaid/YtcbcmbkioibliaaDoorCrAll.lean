/- laws.FnCronAll returns true for every input. -/
import Derived.Test.YtcbcmbkioibliaaDoorCrBi
import Derived.Test.YtcbcmbkioibliaaDoorCrBounds
import Derived.Test.YtcbcmbkioibliaaDoorCrItem
namespace Go.Proofs.YtcbcmbkioibliaaDoor
open Go.RowKit Go.Shelf
set_option linter.unusedVariables false
set_option linter.unusedSimpArgs false

/-- getRange answers v of the text t within the bounds, whatever the names. -/
def StarIs (t : ByteArray) (low high v : Nat) : Prop := ∀ (M : Option Nat) (W : World), Calls Tryd.prog 23 #[.string t, .agg #[.int .u64 low, .int .u64 high, .map M]] W (RangeOk v W)
def BoundsAre (k : Int) (low high : Nat) : Prop := ∀ W : World, Calls Tryd.prog 25 #[.int .i64 k] W (BoundsPost low high W)
def ItemKIs (k : Int) (t : ByteArray) (v : Nat) : Prop := ∀ W : World, Calls Tryd.prog 10 #[.int .i64 k, .string t] W fun e w' => e = .returned (.tuple #[.int .u64 v, .bool true]) ∧ Below W.heap.size W w'
def AllIs (k : Int) (v : Nat) : Prop := ∀ W : World, Calls Tryd.prog 13 #[.int .i64 k] W fun e w' => e = .returned (.int .u64 v) ∧ Below W.heap.size W w'

theorem zzItemK_any (k : Int) (t : ByteArray) (low high v : Nat) (HB : Hid (BoundsAre k low high)) (HS : Hid (StarIs t low high v)) (w : World) :
    Calls Tryd.prog 18 #[.int .i64 k, .string t] w (RangeOk v w) := by
  go_enter Tryd.func18, Tryd.ntmps18
  go_wp2_with fail
  refine (HB.out _).mono ?_
  rintro e w1 ⟨M, rfl, hb⟩
  go_wp2_with fail
  refine (HS.out M _).mono ?_
  rintro e w2 ⟨rfl, hb2⟩
  go_wp2_with fail
  go_ret2
  exact ⟨rfl, hb.trans (hb2.mono hb.size)⟩
theorem itemK_any (k : Int) (t : ByteArray) (low high v : Nat) (h0 : 0 ≤ k) (h5 : k ≤ 5) (HB : Hid (BoundsAre k low high)) (HS : Hid (StarIs t low high v)) : ItemKIs k t v := by
  intro W
  have i1 : (k < 0) = False := by simp; omega
  have i2 : (5 < k) = False := by simp; omega
  clear h0 h5
  go_enter Tryd.func10, Tryd.ntmps10
  go_wp2_with fail
  refine (zzItemK_any k t low high v HB HS _).mono ?_
  rintro e w1 ⟨rfl, hb⟩
  go_wp2_with fail
  refine (bits_ok v _).mono ?_
  rintro e w2 ⟨rfl, rfl⟩
  go_wp2_with fail
  go_ret2
  exact ⟨rfl, hb⟩

set_option maxHeartbeats 1000000 in
theorem all_any (low high : Nat) (hl : low ≤ high) (hh : high ≤ 62) (M : Option Nat) (w : World) :
    Calls Tryd.prog 26 #[.agg #[.int .u64 low, .int .u64 high, .map M]] w fun e w' => e = .returned (.int .u64 (starV low high : Nat)) ∧ Below w.heap.size w w' := by
  go_enter Tryd.func26, Tryd.ntmps26
  go_wp2_with fail
  refine (getBits_one low high hl (by omega) _).mono ?_
  rintro e w1 ⟨rfl, rfl⟩
  go_wp2_with fail
  refine bodyPost_ret (v := .int .u64 (starV low high : Nat)) (by simp [results, Tryd.results26, go_sem, starV, or_star _ (GB_lt _ _ _)]) rfl ⟨rfl, ?_⟩
  exact (by repeat (first | (with_reducible assumption) | (with_reducible exact Below.refl _ _) | (with_reducible refine below_drewN ?_ _) | (with_reducible refine Below.drew ?_) | (with_reducible refine Below.alloc ?_ (by first | omega | (simp <;> omega)) _)))
theorem zzAll_any (k : Int) (low high : Nat) (hl : low ≤ high) (hh : high ≤ 62) (HB : Hid (BoundsAre k low high)) (w : World) :
    Calls Tryd.prog 21 #[.int .i64 k] w fun e w' => e = .returned (.int .u64 (starV low high : Nat)) ∧ Below w.heap.size w w' := by
  go_enter Tryd.func21, Tryd.ntmps21
  go_wp2_with fail
  refine (HB.out _).mono ?_
  rintro e w1 ⟨M, rfl, hb⟩
  go_wp2_with fail
  refine (all_any low high hl hh M _).mono ?_
  rintro e w2 ⟨rfl, hb2⟩
  go_wp2_with fail
  go_ret
  exact ⟨rfl, hb.trans (hb2.mono hb.size)⟩
theorem cronAll_any (k : Int) (low high : Nat) (hl : low ≤ high) (hh : high ≤ 62) (h0 : 0 ≤ k) (h5 : k ≤ 5) (HB : Hid (BoundsAre k low high)) : AllIs k (starV low high) := by
  intro W
  have i1 : (k < 0) = False := by simp; omega
  have i2 : (5 < k) = False := by simp; omega
  clear h0 h5
  go_enter Tryd.func13, Tryd.ntmps13
  go_wp2_with fail
  refine (zzAll_any k low high hl hh HB _).mono ?_
  rintro e w1 ⟨rfl, hb⟩
  go_wp2_with fail
  go_ret
  exact ⟨rfl, hb⟩

theorem star_set (low high : Nat) (hh : high ≤ 62) : setOf (fun i => decide (i < 63) && (decide (low ≤ i) && decide (i < high + 1))) = GB low high 1 := by
  unfold GB
  refine setOf_same _ _ (fun v _ => ?_)
  unfold steps
  by_cases h1 : low ≤ v
  · by_cases h2 : v ≤ high
    · simp [h1, h2, show v < high + 1 by omega, show v < 63 by omega, Nat.mod_one]
    · simp [h1, h2, show ¬ v < high + 1 by omega]
  · simp [h1]

theorem isKind_any (k : Int) (b : Bool) (hb : Hid ((decide (0 ≤ k) && decide (k < 6)) = b)) (w : World) :
    Calls Tryd.prog 9 #[.int .i64 k] w fun e w' => e = .returned (.bool b) ∧ w = w' := by
  by_cases h1 : 0 ≤ k
  · have i1 : (0 ≤ k) = True := by simp; exact h1
    have e : b = decide (k < 6) := by rw [← hb.out]; simp [h1]
    clear h1
    subst e
    go_enter Tryd.func9, Tryd.ntmps9
    go_wp2_with fail
    go_ret
    exact ⟨rfl, rfl⟩
  · have i1 : (0 ≤ k) = False := by simp; omega
    have e : b = false := by rw [← hb.out]; simp [h1]
    clear h1
    subst e
    go_enter Tryd.func9, Tryd.ntmps9
    go_wp2_with fail
    go_ret
    exact ⟨rfl, rfl⟩

set_option maxRecDepth 100000 in
set_option maxHeartbeats 2000000 in
theorem all_go (k : Int) (low high : Nat) (hl : low ≤ high) (hh : high ≤ 62) (h0 : 0 ≤ k) (h5 : k ≤ 5) (V : Nat) (HV : Hid (V = starV low high)) (H1 : Hid (ItemKIs k ⟨#[42]⟩ V)) (H2 : Hid (ItemKIs k ⟨#[42, 47, 49]⟩ V)) (H3 : Hid (AllIs k V)) (HL : Hid (NumIs 19 k low)) (HH : Hid (NumIs 20 k high)) (w : World) :
    Calls Tryd.prog 4 #[.int .i64 k] w fun e w' => e = .returned (.bool true) ∧ Below w.heap.size w w' := by
  have i1 : (k < 0) = False := by simp; omega
  have i2 : (0 ≤ k) = True := by simp; omega
  have i3 : (k < 6) = True := by simp; omega
  have HK : Hid ((decide (0 ≤ k) && decide (k < 6)) = true) := by show _ = _; simp; omega
  clear h0 h5
  obtain ⟨F, hF⟩ : ∃ F : Nat → Bool, Hid (∀ i, F i = (decide (low ≤ i) && decide (i < high + 1))) := ⟨_, fun _ => rfl⟩
  have HE : Hid ((setOf (fun i => decide (i < 63) && F i) ||| 9223372036854775808 : Nat) = V) := by
    show _ = _
    rw [HV.out, show F = (fun i => decide (low ≤ i) && decide (i < high + 1)) from funext hF.out, star_set low high hh]; rfl
  have bk : Below w.heap.size w w := Below.refl _ _
  have nk : w.heap.size ≤ w.heap.size := Nat.le_refl _
  go_enter Tryd.func4, Tryd.ntmps4
  go_wp2_with fail
  refine (isKind_any k true HK _).mono ?_
  rintro e w1 ⟨rfl, rfl⟩
  go_wp2_with fail
  refine (H1.out _).mono ?_
  rintro e w2 ⟨rfl, hb2⟩
  replace bk : Below w.heap.size w w2 := Below.trans (by repeat (first | (with_reducible assumption) | (with_reducible exact Below.refl _ _) | (with_reducible refine below_drewN ?_ _) | (with_reducible refine Below.drew ?_) | (with_reducible refine Below.alloc ?_ (by first | omega | (simp <;> omega)) _))) (hb2.mono bk.size)
  replace nk : w.heap.size ≤ w2.heap.size := bk.size
  clear hb2
  go_wp2_with fail
  refine (H2.out _).mono ?_
  rintro e w3 ⟨rfl, hb3⟩
  replace bk : Below w.heap.size w w3 := Below.trans (by repeat (first | (with_reducible assumption) | (with_reducible exact Below.refl _ _) | (with_reducible refine below_drewN ?_ _) | (with_reducible refine Below.drew ?_) | (with_reducible refine Below.alloc ?_ (by first | omega | (simp <;> omega)) _))) (hb3.mono bk.size)
  replace nk : w.heap.size ≤ w3.heap.size := bk.size
  clear hb3
  go_wp2_with fail
  refine (whole_any k low high hl hh HL HH F hF _).mono ?_
  rintro e w4 ⟨rfl, hb4⟩
  replace bk : Below w.heap.size w w4 := Below.trans (by repeat (first | (with_reducible assumption) | (with_reducible exact Below.refl _ _) | (with_reducible refine below_drewN ?_ _) | (with_reducible refine Below.drew ?_) | (with_reducible refine Below.alloc ?_ (by first | omega | (simp <;> omega)) _))) (hb4.mono bk.size)
  replace nk : w.heap.size ≤ w4.heap.size := bk.size
  clear hb4
  go_wp2_with fail
  generalize hA : (boolAt F).toArray = A
  have HA : Hid (A = (boolAt F).toArray) := hA.symm
  clear hA
  have hB : Hid (∀ W, Calls Tryd.prog 11 #[.agg A] W fun e w' => e = .returned (.int .u64 V) ∧ Below W.heap.size W w') := fun W => by
    have h := bits_any F A HA W
    rw [HE.out] at h
    exact h
  refine (hB.out _).mono ?_
  rintro e w5 ⟨rfl, hb5⟩
  replace bk : Below w.heap.size w w5 := Below.trans (by repeat (first | (with_reducible assumption) | (with_reducible exact Below.refl _ _) | (with_reducible refine below_drewN ?_ _) | (with_reducible refine Below.drew ?_) | (with_reducible refine Below.alloc ?_ (by first | omega | (simp <;> omega)) _))) (hb5.mono bk.size)
  replace nk : w.heap.size ≤ w5.heap.size := bk.size
  clear hb5
  go_wp2_with fail
  refine (H3.out _).mono ?_
  rintro e w6 ⟨rfl, hb6⟩
  replace bk : Below w.heap.size w w6 := Below.trans (by repeat (first | (with_reducible assumption) | (with_reducible exact Below.refl _ _) | (with_reducible refine below_drewN ?_ _) | (with_reducible refine Below.drew ?_) | (with_reducible refine Below.alloc ?_ (by first | omega | (simp <;> omega)) _))) (hb6.mono bk.size)
  replace nk : w.heap.size ≤ w6.heap.size := bk.size
  clear hb6
  go_wp2_with fail
  go_ret
  exact ⟨rfl, bk⟩

theorem low_0 : NumIs 19 0 0 := by
  intro W
  go_enter Tryd.func19, Tryd.ntmps19
  go_wp2_with fail
  go_ret
  exact ⟨rfl, rfl⟩
theorem high_0 : NumIs 20 0 59 := by
  intro W
  go_enter Tryd.func20, Tryd.ntmps20
  go_wp2_with fail
  go_ret
  exact ⟨rfl, rfl⟩
theorem all_k0 (w : World) : Calls Tryd.prog 4 #[.int .i64 0] w fun e w' => e = .returned (.bool true) ∧ Below w.heap.size w w' :=
  all_go 0 0 59 (by decide) (by decide) (by decide) (by decide) _ rfl
    (itemK_any 0 _ 0 59 _ (by decide) (by decide) (fun W => bounds_0 W) (fun M W => star_0 0 59 (by decide) (by decide) (.map M) W))
    (itemK_any 0 _ 0 59 _ (by decide) (by decide) (fun W => bounds_0 W) (fun M W => star_1 0 59 (by decide) (by decide) (.map M) W))
    (cronAll_any 0 0 59 (by decide) (by decide) (by decide) (by decide) (fun W => bounds_0 W)) low_0 high_0 w

theorem low_1 : NumIs 19 1 0 := by
  intro W
  go_enter Tryd.func19, Tryd.ntmps19
  go_wp2_with fail
  go_ret
  exact ⟨rfl, rfl⟩
theorem high_1 : NumIs 20 1 59 := by
  intro W
  go_enter Tryd.func20, Tryd.ntmps20
  go_wp2_with fail
  go_ret
  exact ⟨rfl, rfl⟩
theorem all_k1 (w : World) : Calls Tryd.prog 4 #[.int .i64 1] w fun e w' => e = .returned (.bool true) ∧ Below w.heap.size w w' :=
  all_go 1 0 59 (by decide) (by decide) (by decide) (by decide) _ rfl
    (itemK_any 1 _ 0 59 _ (by decide) (by decide) (fun W => bounds_1 W) (fun M W => star_0 0 59 (by decide) (by decide) (.map M) W))
    (itemK_any 1 _ 0 59 _ (by decide) (by decide) (fun W => bounds_1 W) (fun M W => star_1 0 59 (by decide) (by decide) (.map M) W))
    (cronAll_any 1 0 59 (by decide) (by decide) (by decide) (by decide) (fun W => bounds_1 W)) low_1 high_1 w

theorem low_2 : NumIs 19 2 0 := by
  intro W
  go_enter Tryd.func19, Tryd.ntmps19
  go_wp2_with fail
  go_ret
  exact ⟨rfl, rfl⟩
theorem high_2 : NumIs 20 2 23 := by
  intro W
  go_enter Tryd.func20, Tryd.ntmps20
  go_wp2_with fail
  go_ret
  exact ⟨rfl, rfl⟩
theorem all_k2 (w : World) : Calls Tryd.prog 4 #[.int .i64 2] w fun e w' => e = .returned (.bool true) ∧ Below w.heap.size w w' :=
  all_go 2 0 23 (by decide) (by decide) (by decide) (by decide) _ rfl
    (itemK_any 2 _ 0 23 _ (by decide) (by decide) (fun W => bounds_2 W) (fun M W => star_0 0 23 (by decide) (by decide) (.map M) W))
    (itemK_any 2 _ 0 23 _ (by decide) (by decide) (fun W => bounds_2 W) (fun M W => star_1 0 23 (by decide) (by decide) (.map M) W))
    (cronAll_any 2 0 23 (by decide) (by decide) (by decide) (by decide) (fun W => bounds_2 W)) low_2 high_2 w

theorem low_3 : NumIs 19 3 1 := by
  intro W
  go_enter Tryd.func19, Tryd.ntmps19
  go_wp2_with fail
  go_ret
  exact ⟨rfl, rfl⟩
theorem high_3 : NumIs 20 3 31 := by
  intro W
  go_enter Tryd.func20, Tryd.ntmps20
  go_wp2_with fail
  go_ret
  exact ⟨rfl, rfl⟩
theorem all_k3 (w : World) : Calls Tryd.prog 4 #[.int .i64 3] w fun e w' => e = .returned (.bool true) ∧ Below w.heap.size w w' :=
  all_go 3 1 31 (by decide) (by decide) (by decide) (by decide) _ rfl
    (itemK_any 3 _ 1 31 _ (by decide) (by decide) (fun W => bounds_3 W) (fun M W => star_0 1 31 (by decide) (by decide) (.map M) W))
    (itemK_any 3 _ 1 31 _ (by decide) (by decide) (fun W => bounds_3 W) (fun M W => star_1 1 31 (by decide) (by decide) (.map M) W))
    (cronAll_any 3 1 31 (by decide) (by decide) (by decide) (by decide) (fun W => bounds_3 W)) low_3 high_3 w

theorem low_4 : NumIs 19 4 1 := by
  intro W
  go_enter Tryd.func19, Tryd.ntmps19
  go_wp2_with fail
  go_ret
  exact ⟨rfl, rfl⟩
theorem high_4 : NumIs 20 4 12 := by
  intro W
  go_enter Tryd.func20, Tryd.ntmps20
  go_wp2_with fail
  go_ret
  exact ⟨rfl, rfl⟩
theorem all_k4 (w : World) : Calls Tryd.prog 4 #[.int .i64 4] w fun e w' => e = .returned (.bool true) ∧ Below w.heap.size w w' :=
  all_go 4 1 12 (by decide) (by decide) (by decide) (by decide) _ rfl
    (itemK_any 4 _ 1 12 _ (by decide) (by decide) (fun W => bounds_4 W) (fun M W => star_0 1 12 (by decide) (by decide) (.map M) W))
    (itemK_any 4 _ 1 12 _ (by decide) (by decide) (fun W => bounds_4 W) (fun M W => star_1 1 12 (by decide) (by decide) (.map M) W))
    (cronAll_any 4 1 12 (by decide) (by decide) (by decide) (by decide) (fun W => bounds_4 W)) low_4 high_4 w

theorem low_5 : NumIs 19 5 0 := by
  intro W
  go_enter Tryd.func19, Tryd.ntmps19
  go_wp2_with fail
  go_ret
  exact ⟨rfl, rfl⟩
theorem high_5 : NumIs 20 5 6 := by
  intro W
  go_enter Tryd.func20, Tryd.ntmps20
  go_wp2_with fail
  go_ret
  exact ⟨rfl, rfl⟩
theorem all_k5 (w : World) : Calls Tryd.prog 4 #[.int .i64 5] w fun e w' => e = .returned (.bool true) ∧ Below w.heap.size w w' :=
  all_go 5 0 6 (by decide) (by decide) (by decide) (by decide) _ rfl
    (itemK_any 5 _ 0 6 _ (by decide) (by decide) (fun W => bounds_5 W) (fun M W => star_0 0 6 (by decide) (by decide) (.map M) W))
    (itemK_any 5 _ 0 6 _ (by decide) (by decide) (fun W => bounds_5 W) (fun M W => star_1 0 6 (by decide) (by decide) (.map M) W))
    (cronAll_any 5 0 6 (by decide) (by decide) (by decide) (by decide) (fun W => bounds_5 W)) low_5 high_5 w

theorem all_out (k : Int) (hk : Hid ((decide (0 ≤ k) && decide (k < 6)) = false)) (w : World) :
    Calls Tryd.prog 4 #[.int .i64 k] w fun e w' => e = .returned (.bool true) ∧ Below w.heap.size w w' := by
  go_enter Tryd.func4, Tryd.ntmps4
  go_wp2_with fail
  refine (isKind_any k false hk _).mono ?_
  rintro e w1 ⟨rfl, rfl⟩
  go_wp2_with fail
  go_ret
  exact ⟨rfl, Below.refl _ _⟩

theorem all_law (k : Int) (_w0 : (Lit.int .i64 k).wf = true) (w : World) (ht : Hid (Tab10 w)) :
    Calls Tryd.prog 4 #[.int .i64 k] w fun e w' => e = .returned (.bool true) ∧ Below w.heap.size w w' := by
  cases hk : (decide (0 ≤ k) && decide (k < 6)) with
  | false => exact all_out k hk w
  | true =>
    simp only [Bool.and_eq_true, decide_eq_true_eq] at hk
    have h6 : k = 0 ∨ k = 1 ∨ k = 2 ∨ k = 3 ∨ k = 4 ∨ k = 5 := by omega
    rcases h6 with rfl | rfl | rfl | rfl | rfl | rfl
    · exact all_k0 w
    · exact all_k1 w
    · exact all_k2 w
    · exact all_k3 w
    · exact all_k4 w
    · exact all_k5 w
end Go.Proofs.YtcbcmbkioibliaaDoor
