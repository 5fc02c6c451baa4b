/- laws.FnCronField. -/
import Derived.Test.YtkhggefbkhdimaaGreatDoorFdT
namespace Go.Proofs.YtkhggefbkhdimaaGreatDoor
open Go.RowKit Go.Shelf
set_option linter.unusedVariables false
set_option linter.unusedSimpArgs false

def isKindB (k : Int) : Bool := decide (0 ≤ k) && decide (k < 6)
set_option maxHeartbeats 1000000 in
theorem boundsOf_any (k : Nat) (hk : k < 6) (w : World) : Calls Tryz.prog 134 #[.int .i64 k] w fun e w' => e = .returned (.agg #[.int .i64 (loK k : Nat), .int .i64 (hiK k : Nat), .int .i64 k]) ∧ Below w.heap.size w w' := by
  have HL : Hid (∀ W : World, Calls Tryz.prog 26 #[.int .i64 k] W fun e w' => e = .returned (.int .i64 (loK k : Nat)) ∧ w' = W) := Lib.hid (fun W => low_at k hk W)
  have HH : Hid (∀ W : World, Calls Tryz.prog 53 #[.int .i64 k] W fun e w' => e = .returned (.int .i64 (hiK k : Nat)) ∧ w' = W) := Lib.hid (fun W => high_at k hk W)
  generalize loK k = lo at HL ⊢
  generalize hiK k = hi at HH ⊢
  go_enter Tryz.func134, Tryz.ntmps134
  go_wp2_with (first | (go_at_call 26; refine (HL.out _).mono ?_; rintro e w' ⟨rfl, rfl⟩) | (go_at_call 53; refine (HH.out _).mono ?_; rintro e w' ⟨rfl, rfl⟩))
  all_goals
    refine bodyPost_ret (v := .agg #[.int .i64 lo, .int .i64 hi, .int .i64 k]) (by simp [results, Tryz.results134, go_sem]) rfl ⟨rfl, ?_⟩
    exact (by repeat (first | (with_reducible assumption) | (with_reducible exact Below.refl _ _) | (with_reducible refine below_drewN ?_ _) | (with_reducible refine Below.drew ?_) | (with_reducible refine Below.setCell ?_ (by first | omega | (simp <;> omega)) _) | (with_reducible refine Below.alloc ?_ (by first | omega | (simp <;> omega)) _)))
def FieldIs (lo hi k : Nat) (l : List UInt8) (st : Bool) (f : Nat → Bool) (v : Nat) : Prop := ∀ W : World, Calls Tryz.prog 133 #[.agg #[.int .i64 lo, .int .i64 hi, .int .i64 k], .string (mkB l)] W (SetV st f v W)
end Go.Proofs.YtkhggefbkhdimaaGreatDoor
