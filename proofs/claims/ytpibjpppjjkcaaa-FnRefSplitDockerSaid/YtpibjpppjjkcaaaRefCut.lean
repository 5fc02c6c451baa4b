/- reference.zzCut at a separator of one byte. -/
import Derived.Test.YtpibjpppjjkcaaaIndexRf
import Derived.Deep.QuietTactic
import Derived.BigQuiet
namespace Go.Proofs.Ytpibjpppjjkcaaa
open Go.RowKit

set_option maxHeartbeats 400000 in
theorem cutRf_yes (s : ByteArray) (c : UInt8) (k : Nat) (hs : s.size < maxLen) (hlt : k < s.size) (hk : Hid (fstInt s.data.toList (c.toNat : Int) = k)) (w : World) :
    Calls Try.prog 42 #[.string s, .string ⟨#[c]⟩] w fun e w' => e = .returned (.tuple #[.string (s.extract 0 k), .string (s.extract (k + 1) s.size), .bool true]) ∧ ∃ n, w' = w.drewN n := by
  have hs' := hs
  unfold maxLen at hs
  go_enter Try.func42, Try.ntmps42
  go_wp2_with fail
  refine (indexRf_any _ _ hs' _).mono ?_
  rintro e w' ⟨rfl, rfl⟩
  rw [hk]
  go_wp2_with fail
  go_quiet (fail)
  go_wp2_with fail
  go_ret3
  exact ⟨rfl, _, rfl⟩

set_option maxHeartbeats 400000 in
theorem cutRf_no (s : ByteArray) (c : UInt8) (hs : s.size < maxLen) (hk : fstInt s.data.toList (c.toNat : Int) < 0) (w : World) :
    Calls Try.prog 42 #[.string s, .string ⟨#[c]⟩] w fun e w' => e = .returned (.tuple #[.string s, .string ⟨#[]⟩, .bool false]) ∧ ∃ n, w' = w.drewN n := by
  go_enter Try.func42, Try.ntmps42
  go_wp2_with fail
  refine (indexRf_any _ _ hs _).mono ?_
  rintro e w' ⟨rfl, rfl⟩
  go_wp2_with fail
  go_ret3
  exact ⟨rfl, 0, rfl⟩
end Go.Proofs.Ytpibjpppjjkcaaa
