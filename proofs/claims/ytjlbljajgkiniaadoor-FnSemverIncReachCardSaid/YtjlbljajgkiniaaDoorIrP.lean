/- Runs of increments that lead from one release to a greater one: plain. -/
import Derived.Test.YtjlbljajgkiniaaDoorIrA
namespace Go.Proofs.YtjlbljajgkiniaaDoor
open Go.RowKit
set_option linter.unusedVariables false
set_option linter.unusedSimpArgs false

theorem numI_neg (a b c x y z : Int) : numI 3 a b c x y z < 0 ↔ (a < x ∨ (a = x ∧ (b < y ∨ (b = y ∧ c < z)))) := by
  unfold numI segI
  by_cases h1 : a < x
  · simp [h1]
  · by_cases h2 : x < a
    · simp [h1, h2]; omega
    · obtain rfl : a = x := by omega
      by_cases h3 : b < y
      · simp [h3]
      · by_cases h4 : y < b
        · simp [h3, h4]; omega
        · obtain rfl : b = y := by omega
          by_cases h5 : c < z
          · simp [h5]
          · by_cases h6 : z < c
            · simp [h5, h6]
            · obtain rfl : c = z := by omega
              simp

/-- Behind i numbers: the steps S lead from v to a release that agrees with t so far and with f behind. -/
def RInv (v t : P3) (i : Nat) (S : List Int) (f : P3) : Prop :=
  (∀ s ∈ S, s = 0 ∨ s = 1 ∨ s = 2) ∧ runOk v S ∧ In9 f ∧
  (if 0 < i then (runP v S).1 = t.1 else (runP v S).1 = f.1) ∧ (if 1 < i then (runP v S).2.1 = t.2.1 else (runP v S).2.1 = f.2.1) ∧ (if 2 < i then (runP v S).2.2 = t.2.2 else (runP v S).2.2 = f.2.2) ∧
  (i = 0 → f.1 < t.1 ∨ (f.1 = t.1 ∧ (f.2.1 < t.2.1 ∨ (f.2.1 = t.2.1 ∧ f.2.2 ≤ t.2.2)))) ∧ (i = 1 → f.2.1 < t.2.1 ∨ (f.2.1 = t.2.1 ∧ f.2.2 ≤ t.2.2)) ∧ (i = 2 → f.2.2 ≤ t.2.2)

theorem runOk_snoc {v : P3} {S : List Int} {s : Int} (h : runOk v S) (hs : stepOk (runP v S) s) : runOk v (S ++ [s]) := by
  intro k y hk
  by_cases e : k < S.length
  · rw [List.getElem?_append_left e] at hk
    rw [List.take_append_of_le_length (by omega)]
    exact h k y hk
  · have h2 := (List.getElem?_eq_some_iff.1 hk).1
    simp at h2
    obtain rfl : k = S.length := by omega
    simp at hk
    subst hk
    simpa using hs

/-- m steps of one kind behind S. -/
theorem run_rep (v : P3) (S : List Int) (s : Int) (hs : s = 0 ∨ s = 1 ∨ s = 2) (hS : ∀ y ∈ S, y = 0 ∨ y = 1 ∨ y = 2) (ho : runOk v S) : ∀ m : Nat, (if s = 0 then (runP v S).2.2 else if s = 1 then (runP v S).2.1 else (runP v S).1) + m ≤ 18446744073709551615 →
    (∀ y ∈ S ++ List.replicate m s, y = 0 ∨ y = 1 ∨ y = 2) ∧ runOk v (S ++ List.replicate m s) ∧
    runP v (S ++ List.replicate m s) = (if m = 0 then runP v S else if s = 0 then ((runP v S).1, (runP v S).2.1, (runP v S).2.2 + m) else if s = 1 then ((runP v S).1, (runP v S).2.1 + m, 0) else ((runP v S).1 + m, 0, 0))
  | 0, _ => by simp only [List.replicate_zero, List.append_nil, if_true]; exact ⟨hS, ho, trivial⟩
  | m + 1, h => by
    obtain ⟨h1, h2, h3⟩ := run_rep v S s hs hS ho m (by push_cast at h; omega)
    have e : S ++ List.replicate (m + 1) s = (S ++ List.replicate m s) ++ [s] := by rw [List.replicate_succ']; simp
    rw [e]
    refine ⟨fun y hy => ?_, runOk_snoc h2 ?_, ?_⟩
    · rcases List.mem_append.1 hy with k | k
      · exact h1 y k
      · rw [List.mem_singleton] at k; subst k; exact hs
    · rw [h3]
      unfold stepOk
      push_cast at h
      rcases hs with rfl | rfl | rfl <;> by_cases hm : m = 0 <;> simp [hm] at h ⊢ <;> omega
    · rw [runP_snoc, h3]
      unfold stepP
      rcases hs with rfl | rfl | rfl <;> by_cases hm : m = 0 <;> simp [hm] <;> omega

theorem RInv.start (v t : P3) (hv : In9 v) (h : v.1 < t.1 ∨ (v.1 = t.1 ∧ (v.2.1 < t.2.1 ∨ (v.2.1 = t.2.1 ∧ v.2.2 < t.2.2)))) : RInv v t 0 [] v :=
  ⟨fun s h => by simp at h, fun k s h => by simp at h, hv, by simp [runP], by simp [runP], by simp [runP], fun _ => by omega, fun h => by omega, fun h => by omega⟩
theorem RInv.stay0 {v t f : P3} {S : List Int} (h : RInv v t 0 S f) (hn : ¬ f.1 < t.1) : RInv v t 1 S f := by
  obtain ⟨h1, h2, h3, h4, h5, h6, h7, -, -⟩ := h
  simp at h4 h5 h6
  have h7 := h7 rfl
  exact ⟨h1, h2, h3, by simp; omega, by simpa using h5, by simpa using h6, fun h => by omega, fun _ => by omega, fun h => by omega⟩
theorem RInv.stay1 {v t f : P3} {S : List Int} (h : RInv v t 1 S f) (hn : ¬ f.2.1 < t.2.1) : RInv v t 2 S f := by
  obtain ⟨h1, h2, h3, h4, h5, h6, -, h7, -⟩ := h
  simp at h4 h5 h6
  have h7 := h7 rfl
  exact ⟨h1, h2, h3, by simpa using h4, by simp; omega, by simpa using h6, fun h => by omega, fun h => by omega, fun _ => by omega⟩
theorem RInv.stay2 {v t f : P3} {S : List Int} (h : RInv v t 2 S f) (hn : ¬ f.2.2 < t.2.2) : RInv v t 3 S f := by
  obtain ⟨h1, h2, h3, h4, h5, h6, -, -, h7⟩ := h
  simp at h4 h5 h6
  have h7 := h7 rfl
  exact ⟨h1, h2, h3, by simpa using h4, by simpa using h5, by simp; omega, fun h => by omega, fun h => by omega, fun h => by omega⟩
theorem RInv.go0 {v t f : P3} {S : List Int} (ht : In9 t) (h : RInv v t 0 S f) (hn : f.1 < t.1) (m : Nat) (hm : (m : Int) = t.1 - f.1) : RInv v t 1 (S ++ List.replicate m 2) (f.1, 0, 0) := by
  obtain ⟨h1, h2, h3, h4, h5, h6, h7, -, -⟩ := h
  simp at h4 h5 h6
  obtain ⟨⟨t0, t1⟩, ⟨t2, t3⟩, t4, t5⟩ := ht
  obtain ⟨r1, r2, r3⟩ := run_rep v S 2 (Or.inr (Or.inr rfl)) h1 h2 m (by simp; omega)
  have hm0 : m ≠ 0 := by omega
  simp [hm0] at r3
  refine ⟨r1, r2, ⟨h3.1, ⟨by simp, by simp⟩, by simp, by simp⟩, by simp [r3]; omega, by simp [r3], by simp [r3], fun h => by omega, fun _ => by simp; omega, fun h => by omega⟩
theorem RInv.go1 {v t f : P3} {S : List Int} (ht : In9 t) (h : RInv v t 1 S f) (hn : f.2.1 < t.2.1) (m : Nat) (hm : (m : Int) = t.2.1 - f.2.1) : RInv v t 2 (S ++ List.replicate m 1) (f.1, f.2.1, 0) := by
  obtain ⟨h1, h2, h3, h4, h5, h6, -, h7, -⟩ := h
  simp at h4 h5 h6
  obtain ⟨⟨t0, t1⟩, ⟨t2, t3⟩, t4, t5⟩ := ht
  obtain ⟨r1, r2, r3⟩ := run_rep v S 1 (Or.inr (Or.inl rfl)) h1 h2 m (by simp; omega)
  have hm0 : m ≠ 0 := by omega
  simp [hm0] at r3
  refine ⟨r1, r2, ⟨h3.1, h3.2.1, by simp, by simp⟩, by simp [r3]; omega, by simp [r3]; omega, by simp [r3], fun h => by omega, fun h => by omega, fun _ => by simp; omega⟩
theorem RInv.go2 {v t f : P3} {S : List Int} (ht : In9 t) (h : RInv v t 2 S f) (hn : f.2.2 < t.2.2) (m : Nat) (hm : (m : Int) = t.2.2 - f.2.2) : RInv v t 3 (S ++ List.replicate m 0) f := by
  obtain ⟨h1, h2, h3, h4, h5, h6, -, -, h7⟩ := h
  simp at h4 h5 h6
  obtain ⟨⟨t0, t1⟩, ⟨t2, t3⟩, t4, t5⟩ := ht
  obtain ⟨r1, r2, r3⟩ := run_rep v S 0 (Or.inl rfl) h1 h2 m (by simp; omega)
  have hm0 : m ≠ 0 := by omega
  simp [hm0] at r3
  refine ⟨r1, r2, h3, by simp [r3]; omega, by simp [r3]; omega, by simp [r3]; omega, fun h => by omega, fun h => by omega, fun h => by omega⟩
theorem RInv.fin {v t f : P3} {S : List Int} (h : RInv v t 3 S f) : runP v S = t := by
  obtain ⟨-, -, -, h4, h5, h6, -, -, -⟩ := h
  simp at h4 h5 h6
  obtain ⟨t0, t1, t2⟩ := t
  simp only at h4 h5 h6
  rw [← h4, ← h5, ← h6]
end Go.Proofs.YtjlbljajgkiniaaDoor
