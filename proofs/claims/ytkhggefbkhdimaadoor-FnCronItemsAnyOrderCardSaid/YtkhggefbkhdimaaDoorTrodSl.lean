/- From a slice that came in, as a row reads it, to SlOf. -/
import Derived.Test.YtkhggefbkhdimaaDoorSl
import Derived.Deep.Slices
import Derived.OpenShut
namespace Go.Proofs.YtkhggefbkhdimaaDoor
open Go.RowKit Go.ChangeShapes Go.WideShapes Go.Deep
set_option linter.unusedVariables false

theorem list_of {α : Type} (P : Nat → α → Prop) : ∀ n : Nat, (∀ i, i < n → ∃ a, P i a) → ∃ l : List α, l.length = n ∧ ∀ (i : Nat) (a : α), l[i]? = some a → P i a
  | 0, _ => ⟨[], rfl, fun i a h => by simp at h⟩
  | n + 1, h => by
    obtain ⟨l, hl, hp⟩ := list_of P n (fun i hi => h i (by omega))
    obtain ⟨a, ha⟩ := h n (by omega)
    refine ⟨l ++ [a], by simp [hl], fun i b hb => ?_⟩
    by_cases hi : i < l.length
    · rw [List.getElem?_append_left hi] at hb; exact hp i b hb
    · have := (List.getElem?_eq_some_iff.1 hb).1
      simp at this
      obtain rfl : i = l.length := by omega
      simp at hb
      subst hb
      rw [hl]; exact ha

theorem spot_none {w : World} {a : Addr} {v : Value} (h : w.cell? a = some v) : a.spot = none := by
  cases hs : a.spot with
  | none => rfl
  | some s =>
    unfold World.cell? at h
    split at h
    · simp [hs] at h
    · simp at h

theorem add_add0 (b off n : Nat) : (⟨b, off, none⟩ : Addr).add n = ⟨b, off + n, none⟩ := by unfold Addr.add; split <;> simp_all

theorem sl_of_trod {α : Type} {H : Type} {enc : TypeId × Value → H} {P : Program} {W : World} {spare : Nat → Bool} {held : Bool} {t e : TypeId} {fuel : Nat} {v : Value} {x : DataW H × List MemPlace}
    (R : World → List Value → α → Prop) (Q : α → Prop) (z : Nat) (hz : P.cellsOf e = z) (hz0 : 0 < z) (ht : P.underlying t = some (.slice e))
    (helem : ∀ (n : Nat) (cs : List Value) (y : DataW H × List MemPlace), cs.length = z → DataW.trod enc P W 0 spare held n e cs = some y → ∃ a : α, R W cs a ∧ Q a)
    (h : DataW.trod enc P W 0 spare held fuel t [v] = some x) : ∃ l : List α, SlOf R z W v l ∧ ∀ a ∈ l, Q a := by
  rcases open_slice ht h with ⟨e0, _⟩ | ⟨a, len, cap, m, n, D, Pl, e0, _, hl, hcm, hm, _, hx⟩
  · simp at e0; subst e0
    exact ⟨[], ⟨none, 0, rfl, fun i x h => by simp at h⟩, fun a h => by simp at h⟩
  · simp at e0; subst e0
    rw [hz] at hx
    have hlm : len ≤ m := by rw [hm]; split <;> omega
    have each : ∀ i, i < len → ∃ b : α, (∃ cs, cs.length = z ∧ (∀ (j : Nat) (u : Value), cs[j]? = some u → W.cell? ((a.add (i * z)).add j) = some u) ∧ R W cs b) ∧ Q b := fun i hi => by
      obtain ⟨cs, h1, h2⟩ := hx i (by omega)
      obtain ⟨_, h3, h4⟩ := World.cells?_some h1
      obtain ⟨b, hb, hq⟩ := helem _ cs _ h3 h2
      exact ⟨b, ⟨cs, h3, fun j u hj => by rw [h4 j (by have := (List.getElem?_eq_some_iff.1 hj).1; omega)]; exact hj, hb⟩, hq⟩
    obtain ⟨l, hll, hp⟩ := list_of _ len each
    refine ⟨l, ⟨some a, cap, by rw [hll], fun i y hi => ?_⟩, fun b hb => ?_⟩
    · have hi0 : i < len := by have := (List.getElem?_eq_some_iff.1 hi).1; omega
      obtain ⟨⟨cs, h1, h2, h3⟩, _⟩ := hp i y hi
      have hs : a.spot = none := by
        obtain ⟨y0, hy0⟩ : ∃ y0, l[0]? = some y0 := ⟨l[0]'(by omega), List.getElem?_eq_getElem (by omega)⟩
        obtain ⟨⟨c0, g1, g2, g3⟩, _⟩ := hp 0 y0 hy0
        obtain ⟨u, hu⟩ : ∃ u, c0[0]? = some u := ⟨c0[0]'(by omega), List.getElem?_eq_getElem (by omega)⟩
        have := g2 0 u hu
        rw [Nat.zero_mul] at this
        exact spot_none this
      obtain ⟨b, off, sp⟩ := a
      simp at hs
      subst hs
      exact ⟨b, off, cs, rfl, h1, fun j u hj => by have := h2 j u hj; rw [add_add0, add_add0] at this; exact this, h3⟩
    · obtain ⟨i, hi⟩ := List.getElem?_of_mem hb
      exact (hp i b hi).2
end Go.Proofs.YtkhggefbkhdimaaDoor
