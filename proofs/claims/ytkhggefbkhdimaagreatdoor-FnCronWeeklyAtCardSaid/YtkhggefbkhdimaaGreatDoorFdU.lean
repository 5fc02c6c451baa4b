/- Cells kept; a slice of texts opened. -/
import Derived.Test.YtkhggefbkhdimaaGreatDoorSplitCr
import Derived.Deep.RegionHeld3
import Derived.BigQuiet
namespace Go.Proofs.YtkhggefbkhdimaaGreatDoor
open Go.RowKit
set_option linter.unusedVariables false
set_option linter.unusedSimpArgs false

theorem keepD {X : World} {a : Addr} {u : Value} (h : X.cell? a = some u) : X.drew.cell? a = some u := h
theorem keepN {X : World} {n : Nat} {a : Addr} {u : Value} (h : X.cell? a = some u) : (X.drewN n).cell? a = some u := h
theorem keepV {X : World} {o : Obj} {a : Addr} {u : Value} (h : X.cell? a = some u) : (X.alloc o).cell? a = some u := (World.cell?_alloc_some X a o (by rw [h]; rfl)).trans h
def noStr : ByteArray := ⟨#[]⟩
theorem own_below {w w' : World} {base : Nat} {e : TypeId} {size : Nat} {v : Value} {n : Nat} {xs : List Value} (h : w.ownsRow base e size v n xs) (hb : Below w.heap.size w w') : w'.ownsRow base e size v n xs :=
  h.kept (row := none) ⟨hb.os, hb.tape, hb.output, hb.size, fun i hi _ => hb.block i hi⟩ (by cases v.ownBlock <;> simp)
theorem cellLt {w : World} {a : Addr} {v : Value} (h : w.cell? a = some v) : a.block < w.heap.size := by
  rcases Nat.lt_or_ge a.block w.heap.size with h1 | h1
  · exact h1
  · have : w.heap[a.block]? = none := Array.getElem?_eq_none h1
    simp [World.cell?, this] at h
theorem cellB {X Y : World} {a : Addr} {v : Value} (hb : Below X.heap.size X Y) (h : X.cell? a = some v) : Y.cell? a = some v := (hb.cell (cellLt h)).trans h

/-- A slice of the call's own with texts, opened: where it lies, and each cell. -/
theorem own_open {w : World} {base : Nat} {e : TypeId} {v : Value} {l : List ByteArray} (h : w.ownsRow base e 1 v l.length (strsV l)) (hl : l ≠ []) :
    ∃ g cap, v = .slice (some ⟨g, 0, none⟩) l.length cap ∧ l.length ≤ cap ∧ cap ≤ maxLen ∧ ∀ i, i < l.length → w.cell? ⟨g, i, none⟩ = some (.string (l.getD i noStr)) := by
  have h0 := h
  obtain ⟨_, h⟩ := h
  rcases h with ⟨_, h1⟩ | ⟨g, cap, cur, rfl, _, _, hc, hm, _, _⟩
  · exact absurd (List.eq_nil_of_length_eq_zero h1) hl
  · refine ⟨g, cap, rfl, hc, hm, fun i hi => ?_⟩
    rw [h0.cellAt i (by omega)]
    simp [strsV, List.getD, List.getElem?_eq_getElem hi]

theorem or_zero (v : Nat) (h : v < 18446744073709551616) : bits .or .u64 (v : Int) 0 = (v : Int) := by
  have := u64_or_nat v 0 h (by decide)
  simpa using this
end Go.Proofs.YtkhggefbkhdimaaGreatDoor
