/- semver.zzSplitN at a separator of one byte. -/
import Derived.Test.YtjlbljajgkiniaaDoorSplitSv
namespace Go.Proofs.YtjlbljajgkiniaaDoor
open Go.RowKit
set_option linter.unusedVariables false
set_option linter.unusedSimpArgs false

/-- The pieces of a text, parted m times at most. -/
def cutN (c : Int) : Nat → ByteArray → List ByteArray
  | 0, s => [s]
  | m + 1, s => if fstInt s.data.toList c < 0 then [s] else s.extract 0 (fstInt s.data.toList c).toNat :: cutN c m (s.extract ((fstInt s.data.toList c).toNat + 1) s.size)
theorem cutN_none (c : Int) (m : Nat) (s : ByteArray) (h : fstInt s.data.toList c < 0) : cutN c m s = [s] := by
  cases m with
  | zero => rfl
  | succ m => unfold cutN; rw [if_pos h]
theorem cutN_at (c : Int) (m : Nat) (s : ByteArray) (k : Nat) (h : fstInt s.data.toList c = k) : cutN c (m + 1) s = s.extract 0 k :: cutN c m (s.extract (k + 1) s.size) := by
  rw [cutN, if_neg (by omega), h]; simp

theorem own_shape {w : World} {base : Nat} {e : TypeId} {v : Value} {l : List ByteArray} (h : w.ownsRow base e 1 v l.length (strsV l)) : ∃ a cp, v = .slice a l.length cp := by
  obtain ⟨_, h⟩ := h
  rcases h with ⟨h0, h1⟩ | ⟨g, cap, cur, rfl, _, _, hc, hm, _, _⟩
  · refine ⟨none, 0, ?_⟩
    rw [h0, h1]
  · exact ⟨_, _, rfl⟩
def lenV : Value → Nat
  | .slice _ n _ => n
  | _ => 0

end Go.Proofs.YtjlbljajgkiniaaDoor
