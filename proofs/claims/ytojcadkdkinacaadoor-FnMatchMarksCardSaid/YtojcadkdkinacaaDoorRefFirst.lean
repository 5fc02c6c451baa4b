/- spec.RefFirst: the first place of a byte, or -1. -/
import Derived.Test.YtojcadkdkinacaaDoorWk
namespace Go.Proofs.YtojcadkdkinacaaDoor
open Go.RowKit

set_option maxHeartbeats 400000 in
theorem refFirst_any (s : ByteArray) (c : Int) (hs : s.size ≤ maxLen) (w : World) :
    Calls Tryd.prog 6 #[.string s, .int .u8 c] w fun e w' => e = .returned (.int .i64 (fstInt s.data.toList c)) ∧ w = w' := by
  unfold maxLen at hs
  go_enter Tryd.func6, Tryd.ntmps6
  go_wp2
  go_loop [5] (fun i => ∃ k : Nat, k ≤ s.size ∧ i = .int .i64 k ∧ Hid (k ≤ fstIx s.data.toList c)) (fun i => s.size - (intOf i).toNat)
  case atStart => exact ⟨0, by omega, rfl, Nat.zero_le _⟩
  case round =>
    obtain ⟨k, hk, rfl, hf⟩ := hrel
    by_cases hlt : k < s.size
    · go_wp2
      · go_ret
        exact ⟨ret_i64 (hitS s c k hlt hf ‹_›), rfl⟩
      · go_round
        case rel => exact ⟨k + 1, by omega, by go_num, missS s c k hlt hf ‹_›⟩
        case measure => simp [intOf]; omega
    · go_wp2
      go_ret
      exact ⟨ret_i64 (noneS s c k hlt hf), rfl⟩
end Go.Proofs.YtojcadkdkinacaaDoor
