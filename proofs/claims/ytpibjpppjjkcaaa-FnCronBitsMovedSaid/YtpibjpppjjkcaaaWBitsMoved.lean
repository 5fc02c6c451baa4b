/- FnCronBitsMoved returns true for every input. -/
import Derived.Test.YtpibjpppjjkcaaaGetBits
import Derived.OpenShut
import Derived.RowKit3
namespace Go.Proofs.Ytpibjpppjjkcaaa
open Go.RowKit

set_option maxHeartbeats 1000000 in
theorem bitsMoved_main (a b s k : Nat) (h1 : a ≤ b) (h2 : b ≤ 63) (h3 : k ≤ 63 - b) (h4 : 1 ≤ s) (h5 : s ≤ 4294967296) (w : World) :
    Calls Try.prog 3 #[.int .u64 a, .int .u64 b, .int .u64 s, .int .u64 k] w fun e w' => e = .returned (.bool true) ∧ w = w' := by
  have n0 := GB_ne a b s h1 h2
  have n1 : (((GB (a + k) (b + k) s : Nat) : Int) == IntKind.u64.wrap (((GB a b s : Nat) : Int) * 2 ^ k)) = true := by
    rw [GB_shift a b s k (by omega)]; exact beq_self_eq_true _
  go_enter Try.func3, Try.ntmps3
  go_wp2_with fail
  refine (cronBits_any _ _ _ h1 h2 h4 h5 _).mono ?_
  rintro e w' ⟨rfl, rfl⟩
  go_wp2_with fail
  rw [show ((a : Int) + (k : Int)) = ((a + k : Nat) : Int) from by omega, show ((b : Int) + (k : Int)) = ((b + k : Nat) : Int) from by omega]
  refine (cronBits_any _ _ _ (by omega) (by omega) h4 h5 _).mono ?_
  rintro e w' ⟨rfl, rfl⟩
  go_wp2_with fail
  go_ret
  exact ⟨rfl, rfl⟩

set_option maxHeartbeats 1000000 in
theorem bitsMoved_walk (a0 a1 a2 a3 : Int) (w0 : (Lit.int .u64 a0).wf = true) (w1 : (Lit.int .u64 a1).wf = true) (w2 : (Lit.int .u64 a2).wf = true) (w3 : (Lit.int .u64 a3).wf = true) (w : World) :
    Calls Try.prog 3 #[.int .u64 a0, .int .u64 a1, .int .u64 a2, .int .u64 a3] w fun e w' => e = .returned (.bool true) ∧ Grown w w' := by
  have b0 := bounds_u64 w0
  have b1 := bounds_u64 w1
  have b2 := bounds_u64 w2
  have b3 := bounds_u64 w3
  clear w0 w1 w2 w3
  by_cases h1 : a0 ≤ a1
  · by_cases h2 : a1 ≤ 63
    · by_cases h3 : a3 ≤ 63 - a1
      · by_cases h4 : 1 ≤ a2
        · by_cases h5 : a2 ≤ 4294967296
          · obtain ⟨a, rfl⟩ := Int.eq_ofNat_of_zero_le b0.1
            obtain ⟨b, rfl⟩ := Int.eq_ofNat_of_zero_le b1.1
            obtain ⟨s, rfl⟩ := Int.eq_ofNat_of_zero_le b2.1
            obtain ⟨k, rfl⟩ := Int.eq_ofNat_of_zero_le b3.1
            refine (bitsMoved_main a b s k (by omega) (by omega) (by omega) (by omega) (by omega) w).mono ?_
            rintro e w' ⟨he, rfl⟩
            exact ⟨he, Grown.refl _⟩
          · go_enter Try.func3, Try.ntmps3
            go_wp2_with fail
            go_ret
            exact ⟨rfl, Grown.refl _⟩
        · go_enter Try.func3, Try.ntmps3
          go_wp2_with fail
          go_ret
          exact ⟨rfl, Grown.refl _⟩
      · go_enter Try.func3, Try.ntmps3
        go_wp2_with fail
        go_ret
        exact ⟨rfl, Grown.refl _⟩
    · go_enter Try.func3, Try.ntmps3
      go_wp2_with fail
      go_ret
      exact ⟨rfl, Grown.refl _⟩
  · go_enter Try.func3, Try.ntmps3
    go_wp2_with fail
    go_ret
    exact ⟨rfl, Grown.refl _⟩
end Go.Proofs.Ytpibjpppjjkcaaa
