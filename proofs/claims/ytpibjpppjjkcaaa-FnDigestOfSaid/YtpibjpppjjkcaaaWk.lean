/- Imports and small words that all walks use. -/
import Derived.Test.YtpibjpppjjkcaaaProg
import Derived.Test.YtpibjpppjjkcaaaPStr
import Derived.WalkKit
import Derived.Lib.Hide
import Derived.WalkSpells
import Derived.WalkLawsBesides
import Derived.OpenShut
import Derived.Below
import Derived.Deep.Draws
namespace Go.Proofs.Ytpibjpppjjkcaaa
open Go.RowKit

theorem ret_i64 {a b : Int} (h : a = b) : Ending.returned (.int .i64 a) = .returned (.int .i64 b) := by rw [h]
theorem ret_u64 {a b : Int} (h : a = b) : Ending.returned (.int .u64 a) = .returned (.int .u64 b) := by rw [h]
theorem ret_bool {a b : Bool} (h : a = b) : Ending.returned (.bool a) = .returned (.bool b) := by rw [h]
theorem ret_str {a b : ByteArray} (h : a = b) : Ending.returned (.string a) = .returned (.string b) := by rw [h]
end Go.Proofs.Ytpibjpppjjkcaaa
