/- Imports and small words that all walks use. -/
import Derived.Test.YtkhggefbkhdimaaGreatDoorProg
import Derived.Test.YtkhggefbkhdimaaGreatDoorPStr
import Derived.WalkKit
import Derived.Lib.Hide
import Derived.WalkSpells
import Derived.WalkLawsBesides
import Derived.OpenShut
import Derived.Below
import Derived.Deep.Draws
namespace Go.Proofs.YtkhggefbkhdimaaGreatDoor
open Go.RowKit

theorem ret_i64 {a b : Int} (h : a = b) : Ending.returned (.int .i64 a) = .returned (.int .i64 b) := by rw [h]
theorem ret_u64 {a b : Int} (h : a = b) : Ending.returned (.int .u64 a) = .returned (.int .u64 b) := by rw [h]
theorem ret_bool {a b : Bool} (h : a = b) : Ending.returned (.bool a) = .returned (.bool b) := by rw [h]
theorem ret_str {a b : ByteArray} (h : a = b) : Ending.returned (.string a) = .returned (.string b) := by rw [h]

/-- A walk stops where an arm ends in 'refine stop_here ?_'; 'show' or 'unfold Stop' lays the goal open again. -/
def Stop (p : Prop) : Prop := p
theorem stop_here {p : Prop} (h : Stop p) : p := h

/-- Byte k of a text under a name of its own: lay it ahead of the walk. -/
theorem idxS (s : ByteArray) (k : Nat) (h : k < s.size) (x : Int) (hx : x = ((s[k]).toNat : Int)) :
    ∀ w, (Instr.index 9 (.string s) (.int .i64 (k : Int))).run Tryz.prog w = .ok (.int .u8 x) w := by
  intro w
  subst hx
  simp [run_index_string w 9 s .i64 (k : Int) Tryz.underlying9, h]
end Go.Proofs.YtkhggefbkhdimaaGreatDoor
