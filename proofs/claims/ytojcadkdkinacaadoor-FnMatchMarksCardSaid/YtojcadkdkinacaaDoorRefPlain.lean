/- laws.refPlain: is each byte below 128. -/
import Derived.Test.YtojcadkdkinacaaDoorWk
namespace Go.Proofs.YtojcadkdkinacaaDoor
open Go.RowKit

set_option maxRecDepth 100000 in
set_option maxHeartbeats 400000 in
theorem refPlain_any (s : ByteArray) (hs : s.size ≤ maxLen) (w : World) :
    Calls Tryd.prog 7 #[.string s] w fun e w' => e = .returned (.bool (plainB s.data.toList)) ∧ w = w' := by
  unfold maxLen at hs
  go_enter Tryd.func7, Tryd.ntmps7
  go_wp2
  go_loop [3] (fun i => ∃ k : Nat, k ≤ s.size ∧ i = .int .i64 k ∧ Hid (∀ j, j < k → (hj : j < s.size) → (s[j]).toNat < 128)) (fun i => s.size - (intOf i).toNat)
  case atStart => exact ⟨0, by omega, rfl, fun j hj => by omega⟩
  case round =>
    obtain ⟨k, hk, rfl, hf⟩ := hrel
    by_cases hlt : k < s.size
    · go_wp2
      · go_ret
        exact ⟨ret_bool (plainB_hit s k hlt (by omega)), rfl⟩
      · have hb : ((s[k].toNat : Nat) : Int) < 128 := by assumption
        go_round
        case rel => exact ⟨k + 1, by omega, by go_num, fun j hj h' => by
          rcases Nat.lt_or_ge j k with h1 | h1
          · exact hf j h1 h'
          · obtain rfl : j = k := by omega
            omega⟩
        case measure => simp [intOf]; omega
    · go_wp2
      go_ret
      exact ⟨ret_bool (plainB_end s fun j hj => hf j (by omega) hj), rfl⟩
end Go.Proofs.YtojcadkdkinacaaDoor
