/- The maps of the names of months and of days: plain. -/
import Derived.Test.YtkhggefbkhdimaaDoorPLow
import Derived.Maps.Views
import Derived.Maps.Own
namespace Go.Proofs.YtkhggefbkhdimaaDoor
open Go.Lib Go.Maps
set_option linter.unusedVariables false

def putF : List (List UInt8 × Nat) → DataW Unit → DataW Unit
  | [], D => D
  | (n, v) :: r, D => putF r (D.put (.string n) (.lit (.int .u64 (v : Int))))
theorem strKey (n : List UInt8) : WideAt.IsKeyLit (.string n) := by first | trivial | simp [WideAt.IsKeyLit] | exact ⟨_, rfl⟩
theorem putF_not : ∀ (L : List (List UInt8 × Nat)) (D : DataW Unit) (low : List UInt8) (z : DataW Unit), (∀ p ∈ L, p.1 ≠ low) → (putF L D).atKey (.string low) z = D.atKey (.string low) z ∧ has (putF L D) (.string low) = has D (.string low)
  | [], D, low, z, _ => ⟨rfl, rfl⟩
  | (n, v) :: r, D, low, z, h => by
    have hne : (Lit.string low) ≠ Lit.string n := fun e => h (n, v) (by simp) (by injection e with e; exact e.symm)
    have ih := putF_not r (D.put (.string n) (.lit (.int .u64 (v : Int)))) low z (fun p hp => h p (by simp [hp]))
    unfold putF
    rw [ih.1, ih.2, atKey_put_other hne, has_put_other hne]
    exact ⟨rfl, rfl⟩
theorem putF_in : ∀ (L : List (List UInt8 × Nat)) (D : DataW Unit) (low : List UInt8) (v : Nat) (z : DataW Unit), IsMap D → (L.map Prod.fst).Nodup → L.find? (fun p => p.1 == low) = some (low, v) → (putF L D).atKey (.string low) z = .lit (.int .u64 (v : Int)) ∧ has (putF L D) (.string low) = true
  | [], D, low, v, z, _, _, h => by cases h
  | (n, u) :: r, D, low, v, z, hD, hnd, h => by
    rw [List.map_cons, List.nodup_cons] at hnd
    rw [List.find?_cons] at h
    unfold putF
    by_cases hn : n = low
    · subst hn
      simp only [beq_self_eq_true, Option.some.injEq, Prod.mk.injEq, true_and] at h
      subst h
      have hq := putF_not r (D.put (.string n) (.lit (.int .u64 (u : Int)))) n z (fun p hp e => hnd.1 (by rw [← e]; exact List.mem_map.2 ⟨p, hp, rfl⟩))
      rw [hq.1, hq.2, atKey_put_same hD (strKey _), has_put_same hD (strKey _)]
      exact ⟨rfl, rfl⟩
    · have hb : (n == low) = false := by simpa using hn
      rw [hb] at h
      exact putF_in r _ low v z (hD.put _ _) hnd.2 h
def namesFrom : List (List Nat) → Nat → List (List UInt8 × Nat)
  | [], _ => []
  | N :: r, v => (lowName N, v) :: namesFrom r (v + 1)
theorem find_from : ∀ (L : List (List Nat)) (v : Nat) (low : List UInt8), (namesFrom L v).find? (fun p => p.1 == low) = (L.findIdx? (fun N => low == lowName N)).map (fun i => (low, i + v))
  | [], v, low => rfl
  | N :: r, v, low => by
    unfold namesFrom
    rw [List.find?_cons, List.findIdx?_cons]
    by_cases h : lowName N = low
    · subst h
      simp
    · have h1 : (lowName N == low) = false := by simpa using h
      have h2 : (low == lowName N) = false := by simpa using fun e => h e.symm
      rw [h1, h2]
      dsimp only
      rw [find_from r (v + 1) low]
      simp only [Bool.false_eq_true, ↓reduceIte]
      cases List.findIdx? (fun N => low == lowName N) r with
      | none => rfl
      | some i => simp; omega
/-- The map of a field's names. -/
def nameMap (k : Nat) : DataW Unit := putF (namesFrom (namesU k) (loK k)) (.map [])
theorem nameMap_nodup (k : Nat) (h : k = 4 ∨ k = 5) : ((namesFrom (namesU k) (loK k)).map Prod.fst).Nodup := by
  rcases h with rfl | rfl <;> decide
theorem nameMap_none (k : Nat) (low : List UInt8) (h : lookIx k low = none) (z : DataW Unit) : (nameMap k).atKey (.string low) z = z ∧ has (nameMap k) (.string low) = false := by
  have hf := find_from (namesU k) (loK k) low
  unfold lookIx at h
  rw [h] at hf
  have hq := putF_not (namesFrom (namesU k) (loK k)) (.map []) low z (fun p hp e => by
    have := List.find?_eq_none.1 hf p hp
    simp [e] at this)
  unfold nameMap
  rw [hq.1, hq.2]
  exact ⟨rfl, rfl⟩
theorem nameMap_some (k : Nat) (hk : k = 4 ∨ k = 5) (low : List UInt8) (i : Nat) (h : lookIx k low = some i) (z : DataW Unit) : (nameMap k).atKey (.string low) z = .lit (.int .u64 ((i + loK k : Nat) : Int)) ∧ has (nameMap k) (.string low) = true := by
  have hf := find_from (namesU k) (loK k) low
  unfold lookIx at h
  rw [h] at hf
  exact putF_in _ _ low _ z isMap_empty (nameMap_nodup k hk) hf
end Go.Proofs.YtkhggefbkhdimaaDoor
