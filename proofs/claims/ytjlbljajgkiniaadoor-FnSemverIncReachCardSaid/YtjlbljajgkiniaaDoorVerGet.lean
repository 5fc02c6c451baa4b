/- The getters of a semver.Version by value, compareSegment. -/
import Derived.Test.YtjlbljajgkiniaaDoorPreRel
namespace Go.Proofs.YtjlbljajgkiniaaDoor
open Go.RowKit

abbrev verC (a b c : Int) (p m o : ByteArray) : Array Value := #[.int .u64 a, .int .u64 b, .int .u64 c, .string p, .string m, .string o]

set_option maxHeartbeats 400000 in
theorem major_any (a b c : Int) (p m o : ByteArray) (w : World) :
    Calls Tryd.prog 49 #[.agg (verC a b c p m o)] w fun e w' => e = .returned (.int .u64 a) ∧ w' = w.alloc (.cells (verC a b c p m o) 61) := by
  go_enter Tryd.func49, Tryd.ntmps49
  go_wp2_with fail
  go_ret
  exact ⟨rfl, rfl⟩
set_option maxHeartbeats 400000 in
theorem minor_any (a b c : Int) (p m o : ByteArray) (w : World) :
    Calls Tryd.prog 50 #[.agg (verC a b c p m o)] w fun e w' => e = .returned (.int .u64 b) ∧ w' = w.alloc (.cells (verC a b c p m o) 61) := by
  go_enter Tryd.func50, Tryd.ntmps50
  go_wp2_with fail
  go_ret
  exact ⟨rfl, rfl⟩
set_option maxHeartbeats 400000 in
theorem patch_any (a b c : Int) (p m o : ByteArray) (w : World) :
    Calls Tryd.prog 51 #[.agg (verC a b c p m o)] w fun e w' => e = .returned (.int .u64 c) ∧ w' = w.alloc (.cells (verC a b c p m o) 61) := by
  go_enter Tryd.func51, Tryd.ntmps51
  go_wp2_with fail
  go_ret
  exact ⟨rfl, rfl⟩
set_option maxHeartbeats 400000 in
theorem pre_any (a b c : Int) (p m o : ByteArray) (w : World) :
    Calls Tryd.prog 52 #[.agg (verC a b c p m o)] w fun e w' => e = .returned (.string p) ∧ w' = w.alloc (.cells (verC a b c p m o) 61) := by
  go_enter Tryd.func52, Tryd.ntmps52
  go_wp2_with fail
  go_ret
  exact ⟨rfl, rfl⟩

/-- compareSegment. -/
def segI (a b : Int) : Int := if a < b then -1 else if b < a then 1 else 0

set_option maxHeartbeats 400000 in
theorem segment_any (a b : Int) (w : World) :
    Calls Tryd.prog 58 #[.int .u64 a, .int .u64 b] w fun e w' => e = .returned (.int .i64 (segI a b)) ∧ w = w' := by
  by_cases h1 : a < b
  · have e : segI a b = -1 := by unfold segI; rw [if_pos h1]
    rw [e]
    go_enter Tryd.func58, Tryd.ntmps58
    go_wp2_with fail
    go_ret
    exact ⟨rfl, rfl⟩
  · by_cases h2 : b < a
    · have e : segI a b = 1 := by unfold segI; rw [if_neg h1, if_pos h2]
      rw [e]
      go_enter Tryd.func58, Tryd.ntmps58
      go_wp2_with fail
      go_ret
      exact ⟨rfl, rfl⟩
    · have e : segI a b = 0 := by unfold segI; rw [if_neg h1, if_neg h2]
      rw [e]
      go_enter Tryd.func58, Tryd.ntmps58
      go_wp2_with fail
      go_ret
      exact ⟨rfl, rfl⟩
end Go.Proofs.YtjlbljajgkiniaaDoor
