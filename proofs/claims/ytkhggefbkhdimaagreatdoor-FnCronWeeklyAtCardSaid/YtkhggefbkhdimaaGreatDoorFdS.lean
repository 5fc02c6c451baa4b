/- Sets of a cron field in memory. -/
import Derived.Test.YtkhggefbkhdimaaGreatDoorFdU
import Derived.Test.YtkhggefbkhdimaaGreatDoorPBits
import Derived.Deep.MidRow
namespace Go.Proofs.YtkhggefbkhdimaaGreatDoor
open Go.RowKit
set_option linter.unusedVariables false
set_option linter.unusedSimpArgs false

theorem there_new (W : World) (cs : Array Value) (t : TypeId) (g n : Nat) (hg : g = W.heap.size) (hn : n = cs.size) : (W.alloc (.cells cs t)).there g 0 n := by
  subst hg; subst hn
  have h := heap_alloc_new W (.cells cs t)
  intro j hj
  constructor
  · rw [cell_of_row _ _ _ cs t (0, 0) h]
    simp [hj]
  · unfold World.frozen?
    rw [h]
    simp
theorem infoCS : (Tryz.prog.info? 28).map (·.size) = some 64 := by kernel_rfl
theorem below_setCells {B b : Nat} {X : World} (hB : B ≤ b) : ∀ (vs : List Value) (o : Nat) (w : World), Below B X w → Below B X (w.setCells b o vs)
  | [], _, _, h => h
  | v :: r, o, w, h => by
    unfold World.setCells
    exact below_setCells hB r (o + 1) _ (Below.setCell h hB _)
/-- A set's cells: its star, and the values of f. -/
def setL (st : Bool) (f : Nat → Bool) : List Value := .bool st :: (List.range 63).map (fun i => .bool (f i))
theorem setL_len (st : Bool) (f : Nat → Bool) : (setL st f).length = 64 := by simp [setL]
theorem setL_get (st : Bool) (f : Nat → Bool) (i : Nat) (hi : i < 63) : (setL st f)[i + 1]? = some (.bool (f i)) := by
  simp [setL, hi]
theorem setL_cell {w : World} {g : Nat} {st : Bool} {f : Nat → Bool} (h : w.rangeAt g 0 (setL st f)) (i : Nat) (hi : i < 63) : w.cell? ⟨g, 1 + i, none⟩ = some (.bool (f i)) := by
  have := h (i + 1) _ (setL_get st f i hi)
  rw [show 0 + (i + 1) = 1 + i by omega] at this
  exact this
theorem setL_set {w : World} {g : Nat} {st : Bool} {f f2 : Nat → Bool} (h : w.rangeAt g 0 (setL st f)) (n : Nat) (hn : n < 63) (v : Bool) (hf : ∀ i, f2 i = if i = n then v else f i) : (w.setCell ⟨g, 1 + n, none⟩ (.bool v)).rangeAt g 0 (setL st f2) := by
  intro j u hv
  have hj : j < 64 := by
    have := List.getElem?_eq_some_iff.1 hv
    obtain ⟨h1, _⟩ := this
    rw [setL_len] at h1
    exact h1
  by_cases e : j = 1 + n
  · subst e
    rw [show 1 + n = n + 1 by omega, setL_get st f2 n hn] at hv
    have hv2 := Option.some.inj hv
    subst hv2
    rw [show 0 + (1 + n) = 1 + n by omega, World.cell?_setCell_same _ _ _ (setL_cell h n hn), hf n, if_pos rfl]
  · rw [World.cell?_setCell_other _ _ _ _ (by intro e2; injection e2 with _ e3; omega)]
    refine h j u ?_
    rcases j with _ | j
    · exact hv
    · rw [setL_get st f j (by omega)]
      rw [setL_get st f2 j (by omega)] at hv
      rw [← hv, hf j, if_neg (by omega)]
theorem setL_star {w : World} {g : Nat} {st st2 : Bool} {f : Nat → Bool} (h : w.rangeAt g 0 (setL st f)) : (w.setCell ⟨g, 0, none⟩ (.bool st2)).rangeAt g 0 (setL st2 f) := by
  intro j u hv
  rcases j with _ | j
  · have hv2 := Option.some.inj hv
    subst hv2
    exact World.cell?_setCell_same _ _ _ (h 0 _ rfl)
  · rw [World.cell?_setCell_other _ _ _ _ (by intro e2; injection e2 with _ e3; omega)]
    exact h (j + 1) u hv
theorem there_set {w : World} {g n b o : Nat} {v : Value} (h : w.there g 0 n) : (w.setCell ⟨b, o, none⟩ v).there g 0 n := World.there_setCells h b o [v]
theorem setL_one (st : Bool) (f : Nat → Bool) : (setL st f).toArray.all (·.oneCell') = true := all_oneCell_toArray (fun v hv => by
  unfold setL at hv
  rcases List.mem_cons.1 hv with rfl | hv
  · rfl
  · obtain ⟨i, _, rfl⟩ := List.mem_map.1 hv
    rfl)
theorem rangeAt_below {w w' : World} {g o : Nat} {l : List Value} (h : w.rangeAt g o l) (hb : Below w.heap.size w w') : w'.rangeAt g o l := fun j v hv => by
  have := h j v hv
  have hl := World.block_lt_of_cell? w _ this
  exact (hb.cell (p := ⟨g, o + j, none⟩) hl).trans this
theorem there_below {w w' : World} {g o n : Nat} (h : w.there g o n) (hb : Below w.heap.size w w') : w'.there g o n := fun j hj => by
  obtain ⟨h1, h2⟩ := h j hj
  obtain ⟨v, hv⟩ := Option.isSome_iff_exists.1 h1
  have hl := World.block_lt_of_cell? w _ hv
  exact ⟨by rw [hb.cell (p := ⟨g, o + j, none⟩) hl]; exact h1, by rw [hb.frozen (p := ⟨g, o + j, none⟩) hl]; exact h2⟩
theorem there_part {w : World} {g n o m : Nat} (h : w.there g 0 n) (hm : o + m ≤ n) : w.there g o m := fun j hj => by
  have := h (o + j) (by omega)
  rw [show 0 + (o + j) = o + j by omega] at this
  exact this
def noneB : Nat → Bool := fun _ => false
end Go.Proofs.YtkhggefbkhdimaaGreatDoor
