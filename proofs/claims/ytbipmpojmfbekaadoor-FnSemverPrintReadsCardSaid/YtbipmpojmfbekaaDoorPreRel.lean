/- semver.comparePrerelease. -/
import Derived.Test.YtbipmpojmfbekaaDoorParse
import Derived.Test.YtbipmpojmfbekaaDoorSplitSv
namespace Go.Proofs.YtbipmpojmfbekaaDoor
open Go.RowKit

def noStr : ByteArray := ⟨#[]⟩

theorem own_below {w w' : World} {base : Nat} {e : TypeId} {size : Nat} {v : Value} {n : Nat} {xs : List Value} (h : w.ownsRow base e size v n xs) (hb : Below w.heap.size w w') : w'.ownsRow base e size v n xs :=
  h.kept (row := none) ⟨hb.os, hb.tape, hb.output, hb.size, fun i hi _ => hb.block i hi⟩ (by cases v.ownBlock <;> simp)

/-- A slice of the call's own with texts, opened: where it lies, and each cell. -/
theorem own_open {w : World} {base : Nat} {e : TypeId} {v : Value} {l : List ByteArray} (h : w.ownsRow base e 1 v l.length (strsV l)) (hl : l ≠ []) :
    ∃ g cap, v = .slice (some ⟨g, 0, none⟩) l.length cap ∧ l.length ≤ cap ∧ cap ≤ maxLen ∧ ∀ i, i < l.length → w.cell? ⟨g, i, none⟩ = some (.string (l.getD i noStr)) := by
  have h0 := h
  obtain ⟨_, h⟩ := h
  rcases h with ⟨_, h1⟩ | ⟨g, cap, cur, rfl, _, _, hc, hm, _, _⟩
  · exact absurd (List.eq_nil_of_length_eq_zero h1) hl
  · refine ⟨g, cap, rfl, hc, hm, fun i hi => ?_⟩
    rw [h0.cellAt i (by omega)]
    simp [strsV, List.getD, List.getElem?_eq_getElem hi]

theorem cutB_size (c : Int) (s : ByteArray) (i : Nat) : ((cutB c s).getD i noStr).size ≤ s.size := by
  unfold cutB
  rw [← str_len s]
  generalize s.data.toList = l
  have key : ∀ l : List UInt8, ∀ x ∈ cutL c l, x.length ≤ l.length := by
    intro l
    induction l with
    | nil => intro x hx; simp [cutL] at hx; subst hx; simp
    | cons y ys ih =>
      intro x hx
      unfold cutL at hx
      split at hx
      · rcases List.mem_cons.mp hx with rfl | h
        · simp
        · have := ih x h; simp; omega
      · split at hx
        · simp at hx; subst hx; simp
        · rename_i z zs hz
          rcases List.mem_cons.mp hx with rfl | h
          · have := ih z (by rw [hz]; simp); simp; omega
          · have := ih x (by rw [hz]; simp [h]); simp; omega
  rcases Nat.lt_or_ge i (cutL c l).length with hi | hi
  · have e : ((cutL c l).map fun l => (⟨l.toArray⟩ : ByteArray)).getD i noStr = ⟨((cutL c l)[i]).toArray⟩ := by
      simp [List.getD, hi]
    rw [e]
    have := key l _ (List.getElem_mem hi)
    show ((cutL c l)[i]).toArray.size ≤ _
    simpa using this
  · have e : ((cutL c l).map fun l => (⟨l.toArray⟩ : ByteArray)).getD i noStr = noStr := by
      simp [List.getD, hi]
    rw [e]
    exact Nat.zero_le _

theorem getD_past (l : List ByteArray) (i : Nat) (h : l.length ≤ i) : l.getD i noStr = noStr := by
  simp [List.getD, h]


end Go.Proofs.YtbipmpojmfbekaaDoor
