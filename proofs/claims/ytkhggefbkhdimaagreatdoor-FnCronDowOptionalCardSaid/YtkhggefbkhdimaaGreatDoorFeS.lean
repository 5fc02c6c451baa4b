/- cron.all, ZZAll, impl.CronAll of the day of the week; the field that is left away. -/
import Derived.Test.YtkhggefbkhdimaaGreatDoorGFm
import Derived.Test.YtkhggefbkhdimaaGreatDoorFdR
import Derived.Test.YtkhggefbkhdimaaGreatDoorPBits
namespace Go.Proofs.YtkhggefbkhdimaaGreatDoor
open Go.RowKit
set_option linter.unusedVariables false
set_option linter.unusedSimpArgs false

set_option maxRecDepth 100000 in
theorem dow_star : fieldJ 5 [42] = some 9223372036854775935 := by decide +kernel
/-- The set of a star. -/
def starV (low high : Nat) : Nat := GB low high 1 ||| 9223372036854775808
def BoundsAre (k : Int) (low high : Nat) : Prop := ∀ W : World, Calls Tryz.prog 78 #[.int .i64 k] W fun e w' => ∃ M : Option Nat, e = .returned (.agg #[.int .u64 low, .int .u64 high, .map M]) ∧ Below W.heap.size W w'
def AllIs (k : Int) (v : Nat) : Prop := ∀ W : World, Calls Tryz.prog 16 #[.int .i64 k] W fun e w' => e = .returned (.int .u64 v) ∧ Below W.heap.size W w'
set_option maxHeartbeats 1000000 in
theorem all_any (low high : Nat) (hl : low ≤ high) (hh : high ≤ 62) (M : Option Nat) (w : World) :
    Calls Tryz.prog 77 #[.agg #[.int .u64 low, .int .u64 high, .map M]] w fun e w' => e = .returned (.int .u64 (starV low high : Nat)) ∧ Below w.heap.size w w' := by
  go_enter Tryz.func77, Tryz.ntmps77
  go_wp2_with fail
  refine (getBitsW_any low high 1 hl (by omega) (by omega) (by omega) _).mono ?_
  rintro e w1 ⟨rfl, rfl⟩
  go_wp2_with fail
  refine bodyPost_ret (v := .int .u64 (starV low high : Nat)) (by simp [results, Tryz.results77, go_sem, starV, or_star _ (GB_lt _ _ _)]) rfl ⟨rfl, ?_⟩
  exact (by repeat (first | (with_reducible assumption) | (with_reducible exact Below.refl _ _) | (with_reducible refine below_drewN ?_ _) | (with_reducible refine Below.drew ?_) | (with_reducible refine Below.alloc ?_ (by first | omega | (simp <;> omega)) _)))
theorem zzAll_any (k : Int) (low high : Nat) (hl : low ≤ high) (hh : high ≤ 62) (HB : Hid (BoundsAre k low high)) (w : World) :
    Calls Tryz.prog 44 #[.int .i64 k] w fun e w' => e = .returned (.int .u64 (starV low high : Nat)) ∧ Below w.heap.size w w' := by
  go_enter Tryz.func44, Tryz.ntmps44
  go_wp2_with fail
  refine (HB.out _).mono ?_
  rintro e w1 ⟨M, rfl, hb⟩
  go_wp2_with fail
  refine (all_any low high hl hh M _).mono ?_
  rintro e w2 ⟨rfl, hb2⟩
  go_wp2_with fail
  go_ret
  exact ⟨rfl, hb.trans (hb2.mono hb.size)⟩
theorem cronAll_any (k : Int) (low high : Nat) (hl : low ≤ high) (hh : high ≤ 62) (h0 : 0 ≤ k) (h5 : k ≤ 5) (HB : Hid (BoundsAre k low high)) : AllIs k (starV low high) := by
  intro W
  have i1 : (k < 0) = False := by simp; omega
  have i2 : (5 < k) = False := by simp; omega
  clear h0 h5
  go_enter Tryz.func16, Tryz.ntmps16
  go_wp2_with fail
  refine (zzAll_any k low high hl hh HB _).mono ?_
  rintro e w1 ⟨rfl, hb⟩
  go_wp2_with fail
  go_ret
  exact ⟨rfl, hb⟩
theorem star_06 : starV 0 6 = 9223372036854775935 := by decide +kernel
theorem implAll5 : AllIs 5 9223372036854775935 := by
  rw [← star_06]
  refine cronAll_any 5 0 6 (by decide) (by decide) (by decide) (by decide) (Lib.hid (fun W => ?_))
  refine (bounds_any 5 (by omega) W).mono ?_
  intro e w' h
  obtain ⟨M, rfl, _, hb⟩ := h
  exact ⟨M, rfl, hb⟩
end Go.Proofs.YtkhggefbkhdimaaGreatDoor
