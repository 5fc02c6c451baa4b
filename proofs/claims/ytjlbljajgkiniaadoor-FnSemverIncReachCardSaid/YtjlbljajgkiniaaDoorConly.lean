/- semver.containsOnly of an ASCII text. -/
import Derived.Test.YtjlbljajgkiniaaDoorRuneSv
import Derived.Test.YtjlbljajgkiniaaDoorSplitN
namespace Go.Proofs.YtjlbljajgkiniaaDoor
open Go.RowKit
set_option linter.unusedVariables false
set_option linter.unusedSimpArgs false

def inB (p : ByteArray) (c : Int) : Bool := decide (0 ≤ fstInt p.data.toList c)
/-- Is each byte of s one of p's? -/
def onlyB (s p : ByteArray) : Bool := s.data.toList.all (fun b => inB p b.toNat)
def upOnly (s p : ByteArray) (k : Nat) : Prop := ∀ j (h : j < s.size), j < k → inB p (s[j]).toNat = true
theorem only_end (s p : ByteArray) (h : upOnly s p s.size) : onlyB s p = true := by
  unfold onlyB
  rw [List.all_eq_true]
  intro b hb
  obtain ⟨j, hj, rfl⟩ := List.mem_iff_getElem.1 hb
  have hj2 : j < s.size := by rw [← str_len]; exact hj
  exact h j hj2 hj2
theorem only_hit (s p : ByteArray) (k : Nat) (hk : k < s.size) (h : inB p (s[k]).toNat = false) : onlyB s p = false := by
  unfold onlyB
  rw [List.all_eq_false]
  exact ⟨s.data.toList[k]'(by rw [str_len]; exact hk), List.getElem_mem _, by rw [← str_get s k hk, h]; decide⟩

end Go.Proofs.YtjlbljajgkiniaaDoor
