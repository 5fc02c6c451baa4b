/- semver.zzIndex of a text of one byte: the first place of this byte, or -1. -/
import Derived.Test.YtkhggefbkhdimaaGreatDoorWk
namespace Go.Proofs.YtkhggefbkhdimaaGreatDoor
open Go.RowKit

set_option maxHeartbeats 400000 in
theorem indexSv_any (s : ByteArray) (c : UInt8) (hs : s.size < maxLen) (w : World) :
    Calls Tryz.prog 63 #[.string s, .string ⟨#[c]⟩] w fun e w' => e = .returned (.int .i64 (fstInt s.data.toList c.toNat)) ∧ w = w' := by
  unfold maxLen at hs
  go_enter Tryz.func63, Tryz.ntmps63
  go_wp2
  go_loop [5] (fun i => ∃ k : Nat, k ≤ s.size ∧ i = .int .i64 k ∧ Hid (k ≤ fstIx s.data.toList c.toNat)) (fun i => s.size - (intOf i).toNat)
  case atStart => exact ⟨0, by omega, rfl, Nat.zero_le _⟩
  case round =>
    obtain ⟨k, hk, rfl, hf⟩ := hrel
    by_cases hlt : k < s.size
    · go_wp2
      · go_ret
        exact ⟨ret_i64 (hitS s _ k hlt hf (one_test s k hlt c true ‹_›)), rfl⟩
      · go_round
        case rel => exact ⟨k + 1, by omega, by go_num, missS s _ k hlt hf (one_test s k hlt c false ‹_›)⟩
        case measure => simp [intOf]; omega
    · go_wp2
      go_ret
      exact ⟨ret_i64 (noneS s _ k hlt hf), rfl⟩
end Go.Proofs.YtkhggefbkhdimaaGreatDoor
