/- spec.CronLow, CronHigh, CronName. -/
import Derived.Test.YtkhggefbkhdimaaDoorFdE
namespace Go.Proofs.YtkhggefbkhdimaaDoor
open Go.RowKit
set_option linter.unusedVariables false
set_option linter.unusedSimpArgs false

theorem low_at (k : Nat) (hk : k < 6) (w : World) : Calls Tryd.prog 21 #[.int .i64 k] w fun e w' => e = .returned (.int .i64 (loK k : Nat)) ∧ w' = w := by
  rcases k with _ | _ | _ | _ | _ | _ | k
  all_goals first
    | omega
    | (go_enter Tryd.func21, Tryd.ntmps21
       go_wp2_with fail
       go_ret
       exact ⟨rfl, rfl⟩)
theorem high_at (k : Nat) (hk : k < 6) (w : World) : Calls Tryd.prog 22 #[.int .i64 k] w fun e w' => e = .returned (.int .i64 (hiK k : Nat)) ∧ w' = w := by
  rcases k with _ | _ | _ | _ | _ | _ | k
  all_goals first
    | omega
    | (go_enter Tryd.func22, Tryd.ntmps22
       go_wp2_with fail
       go_ret
       exact ⟨rfl, rfl⟩)
def txtM : ByteArray := ⟨#[46, 46, 46, 74, 65, 78, 70, 69, 66, 77, 65, 82, 65, 80, 82, 77, 65, 89, 74, 85, 78, 74, 85, 76, 65, 85, 71, 83, 69, 80, 79, 67, 84, 78, 79, 86, 68, 69, 67]⟩
theorem lowM (w : World) : Calls Tryd.prog 21 #[.int .i64 4] w fun e w' => e = .returned (.int .i64 1) ∧ w' = w := low_at 4 (by decide) w
theorem highM (w : World) : Calls Tryd.prog 22 #[.int .i64 4] w fun e w' => e = .returned (.int .i64 12) ∧ w' = w := high_at 4 (by decide) w
set_option maxRecDepth 100000 in
set_option maxHeartbeats 2000000 in
theorem nameM (v : Nat) (h1 : 1 ≤ v) (h2 : v ≤ 12) (w : World) :
    Calls Tryd.prog 62 #[.int .i64 4, .int .i64 v] w fun e w' => e = .returned (.string (txtM.extract (3 * v) (3 * v + 3))) ∧ Below w.heap.size w w' := by
  have q1 : decide ((v : Int) < 1) = false := decide_eq_false (by omega)
  have q2 : decide ((12 : Int) < (v : Int)) = false := decide_eq_false (by omega)
  go_enter Tryd.func62, Tryd.ntmps62
  go_wp2_with (first | (go_at_call 21; refine (lowM _).mono ?_; rintro e w' ⟨rfl, rfl⟩) | (go_at_call 22; refine (highM _).mono ?_; rintro e w' ⟨rfl, rfl⟩))
  go_ret
  exact ⟨rfl, Below.refl _ _⟩
def txtD : ByteArray := ⟨#[83, 85, 78, 77, 79, 78, 84, 85, 69, 87, 69, 68, 84, 72, 85, 70, 82, 73, 83, 65, 84]⟩
theorem lowD (w : World) : Calls Tryd.prog 21 #[.int .i64 5] w fun e w' => e = .returned (.int .i64 0) ∧ w' = w := low_at 5 (by decide) w
theorem highD (w : World) : Calls Tryd.prog 22 #[.int .i64 5] w fun e w' => e = .returned (.int .i64 6) ∧ w' = w := high_at 5 (by decide) w
set_option maxRecDepth 100000 in
set_option maxHeartbeats 2000000 in
theorem nameD (v : Nat) (h1 : 0 ≤ v) (h2 : v ≤ 6) (w : World) :
    Calls Tryd.prog 62 #[.int .i64 5, .int .i64 v] w fun e w' => e = .returned (.string (txtD.extract (3 * v) (3 * v + 3))) ∧ Below w.heap.size w w' := by
  have q1 : decide ((v : Int) < 0) = false := decide_eq_false (by omega)
  have q2 : decide ((6 : Int) < (v : Int)) = false := decide_eq_false (by omega)
  go_enter Tryd.func62, Tryd.ntmps62
  go_wp2_with (first | (go_at_call 21; refine (lowD _).mono ?_; rintro e w' ⟨rfl, rfl⟩) | (go_at_call 22; refine (highD _).mono ?_; rintro e w' ⟨rfl, rfl⟩))
  go_ret
  exact ⟨rfl, Below.refl _ _⟩
end Go.Proofs.YtkhggefbkhdimaaDoor
