/- The lowered form of any text (cron.zzLower), plain. The maps of the names of months and of days: plain. -/
import Derived.Test.YtkhggefbkhdimaaGreatDoorGPa
import Derived.Lib.TrimU
import Derived.Lib.FieldsU
import Derived.Lib.OthersKept
import Derived.Maps.Views
import Derived.Maps.Own
namespace Go.Proofs.YtkhggefbkhdimaaGreatDoor
open Go.Lib
set_option linter.unusedVariables false

/-- What a character of a text becomes. -/
def lowR (r : Nat) : List UInt8 := if 65 ≤ r ∧ r ≤ 90 then [UInt8.ofNat (r + 32)] else if r = 304 then [105] else if r = 8490 then [107] else (Utf8.encode (r : Int)).data.toList
def lowF (s : ByteArray) : Nat → Nat → List UInt8
  | 0, _ => []
  | f + 1, pos => if pos < s.size then lowR (Utf8.decode s pos).1 ++ lowF s f (pos + (Utf8.decode s pos).2) else []
/-- cron.zzLower. -/
def lowG (s : ByteArray) : List UInt8 := lowF s s.size 0
theorem low_end (s : ByteArray) (f pos : Nat) (h : ¬ pos < s.size) : lowF s f pos = [] := by
  cases f with
  | zero => rfl
  | succ f => unfold lowF; rw [if_neg h]
theorem low_fuel (s : ByteArray) : ∀ f g pos : Nat, s.size ≤ pos + f → s.size ≤ pos + g → lowF s f pos = lowF s g pos
  | 0, g, pos, h, _ => by rw [low_end s 0 pos (by omega), low_end s g pos (by omega)]
  | f + 1, 0, pos, _, h => by rw [low_end s 0 pos (by omega), low_end s (f + 1) pos (by omega)]
  | f + 1, g + 1, pos, h1, h2 => by
    unfold lowF
    split
    · have hw := width_pos s pos
      rw [low_fuel s f g _ (by omega) (by omega)]
    · rfl
theorem width_in (s : ByteArray) (pos : Nat) (h : pos < s.size) : pos + (Utf8.decode s pos).2 ≤ s.size := by
  rw [decode_at]
  have := decodeN_le_n' (s.size - pos) (s.get! pos).toNat (s.get! (pos + 1)).toNat (s.get! (pos + 2)).toNat (s.get! (pos + 3)).toNat (by omega)
  omega
theorem low_step (s : ByteArray) (pos : Nat) (h : pos < s.size) : lowF s (s.size - pos) pos = lowR (Utf8.decode s pos).1 ++ lowF s (s.size - (pos + (Utf8.decode s pos).2)) (pos + (Utf8.decode s pos).2) := by
  obtain ⟨f, hf⟩ : ∃ f, s.size - pos = f + 1 := ⟨s.size - pos - 1, by omega⟩
  rw [hf]
  conv => lhs; unfold lowF
  rw [if_pos h]
  congr 1
  have hw := width_pos s pos
  exact low_fuel s _ _ _ (by omega) (by omega)
theorem encode_four (r : Int) : (Utf8.encode r).size ≤ 4 := by
  unfold Utf8.encode
  dsimp only
  generalize (if Utf8.valid r = true then r.toNat else Utf8.runeError) = c
  split
  · exact (by decide : (1 : Nat) ≤ 4)
  · split
    · exact (by decide : (2 : Nat) ≤ 4)
    · split
      · exact (by decide : (3 : Nat) ≤ 4)
      · exact Nat.le_refl 4
theorem lowR_len (r : Nat) : (lowR r).length ≤ 4 := by
  unfold lowR
  split
  · exact (by decide : (1 : Nat) ≤ 4)
  · split
    · exact (by decide : (1 : Nat) ≤ 4)
    · split
      · exact (by decide : (1 : Nat) ≤ 4)
      · have := encode_four (r : Int)
        rw [str_len]
        exact this
theorem encode_low (b : UInt8) (h : b.toNat < 128) : (Utf8.encode (b.toNat : Int)).data.toList = [b] := by
  have v : Utf8.valid (b.toNat : Int) = true := by simp [Utf8.valid]; omega
  have c1 : b.toNat < 128 := by omega
  simp [Utf8.encode, v, c1]
theorem lowR_byte (b : UInt8) (h : b.toNat < 128) : lowR b.toNat = [lowU b] := by
  unfold lowR lowU lowN
  by_cases h1 : 65 ≤ b.toNat ∧ b.toNat ≤ 90
  · rw [if_pos h1, if_pos h1]
  · have h2 : ¬ b.toNat = 304 := by omega
    have h3 : ¬ b.toNat = 8490 := by omega
    rw [if_neg h1, if_neg h1, if_neg h2, if_neg h3, encode_low b h, UInt8.ofNat_toNat]
theorem low_map (s : ByteArray) (ha : asciiB s.data.toList = true) : ∀ f pos : Nat, s.size ≤ pos + f → lowF s f pos = (s.data.toList.drop pos).map lowU
  | 0, pos, h => by
    have hl : s.data.toList.length ≤ pos := by rw [Array.length_toList]; exact (by simpa using h)
    rw [low_end s 0 pos (by omega), List.drop_eq_nil_of_le hl]
    rfl
  | f + 1, pos, h => by
    by_cases hp : pos < s.size
    · have hp2 : pos < s.data.toList.length := by rw [Array.length_toList]; exact hp
      have hb : (s.data.toList[pos]).toNat < 128 := by
        unfold asciiB at ha
        have := List.all_eq_true.1 ha _ (List.getElem_mem hp2)
        simpa using this
      have hd := decode_ascii s pos hp hb
      unfold lowF
      rw [if_pos hp, hd]
      dsimp only
      rw [low_map s ha f (pos + 1) (by omega)]
      rw [List.drop_eq_getElem_cons hp2, List.map_cons]
      have := lowR_byte _ hb
      show lowR (s.data.toList[pos]).toNat ++ _ = _
      rw [this]
      rfl
    · have hl : s.data.toList.length ≤ pos := by rw [Array.length_toList]; exact (by have : ¬ pos < s.data.size := hp; omega)
      rw [low_end s (f + 1) pos hp, List.drop_eq_nil_of_le hl]
      rfl
theorem low_ascii (s : ByteArray) (ha : asciiB s.data.toList = true) : lowG s = s.data.toList.map lowU := by
  unfold lowG
  rw [low_map s ha _ 0 (by omega), List.drop_zero]
end Go.Proofs.YtkhggefbkhdimaaGreatDoor

namespace Go.Proofs.YtkhggefbkhdimaaGreatDoor
open Go.Lib Go.Maps
set_option linter.unusedVariables false

def putF : List (List UInt8 × Nat) → DataW Unit → DataW Unit
  | [], D => D
  | (n, v) :: r, D => putF r (D.put (.string n) (.lit (.int .u64 (v : Int))))
theorem strKey (n : List UInt8) : WideAt.IsKeyLit (.string n) := by first | trivial | simp [WideAt.IsKeyLit] | exact ⟨_, rfl⟩
theorem putF_not : ∀ (L : List (List UInt8 × Nat)) (D : DataW Unit) (low : List UInt8) (z : DataW Unit), (∀ p ∈ L, p.1 ≠ low) → (putF L D).atKey (.string low) z = D.atKey (.string low) z ∧ has (putF L D) (.string low) = has D (.string low)
  | [], D, low, z, _ => ⟨rfl, rfl⟩
  | (n, v) :: r, D, low, z, h => by
    have hne : (Lit.string low) ≠ Lit.string n := fun e => h (n, v) (by simp) (by injection e with e; exact e.symm)
    have ih := putF_not r (D.put (.string n) (.lit (.int .u64 (v : Int)))) low z (fun p hp => h p (by simp [hp]))
    unfold putF
    rw [ih.1, ih.2, atKey_put_other hne, has_put_other hne]
    exact ⟨rfl, rfl⟩
theorem putF_in : ∀ (L : List (List UInt8 × Nat)) (D : DataW Unit) (low : List UInt8) (v : Nat) (z : DataW Unit), IsMap D → (L.map Prod.fst).Nodup → L.find? (fun p => p.1 == low) = some (low, v) → (putF L D).atKey (.string low) z = .lit (.int .u64 (v : Int)) ∧ has (putF L D) (.string low) = true
  | [], D, low, v, z, _, _, h => by cases h
  | (n, u) :: r, D, low, v, z, hD, hnd, h => by
    rw [List.map_cons, List.nodup_cons] at hnd
    rw [List.find?_cons] at h
    unfold putF
    by_cases hn : n = low
    · subst hn
      simp only [beq_self_eq_true, Option.some.injEq, Prod.mk.injEq, true_and] at h
      subst h
      have hq := putF_not r (D.put (.string n) (.lit (.int .u64 (u : Int)))) n z (fun p hp e => hnd.1 (by rw [← e]; exact List.mem_map.2 ⟨p, hp, rfl⟩))
      rw [hq.1, hq.2, atKey_put_same hD (strKey _), has_put_same hD (strKey _)]
      exact ⟨rfl, rfl⟩
    · have hb : (n == low) = false := by simpa using hn
      rw [hb] at h
      exact putF_in r _ low v z (hD.put _ _) hnd.2 h
def namesFrom : List (List Nat) → Nat → List (List UInt8 × Nat)
  | [], _ => []
  | N :: r, v => (lowName N, v) :: namesFrom r (v + 1)
theorem find_from : ∀ (L : List (List Nat)) (v : Nat) (low : List UInt8), (namesFrom L v).find? (fun p => p.1 == low) = (L.findIdx? (fun N => low == lowName N)).map (fun i => (low, i + v))
  | [], v, low => rfl
  | N :: r, v, low => by
    unfold namesFrom
    rw [List.find?_cons, List.findIdx?_cons]
    by_cases h : lowName N = low
    · subst h
      simp
    · have h1 : (lowName N == low) = false := by simpa using h
      have h2 : (low == lowName N) = false := by simpa using fun e => h e.symm
      rw [h1, h2]
      dsimp only
      rw [find_from r (v + 1) low]
      simp only [Bool.false_eq_true, ↓reduceIte]
      cases List.findIdx? (fun N => low == lowName N) r with
      | none => rfl
      | some i => simp; omega
/-- The map of a field's names. -/
def nameMap (k : Nat) : DataW Unit := putF (namesFrom (namesU k) (loK k)) (.map [])
theorem nameMap_nodup (k : Nat) (h : k = 4 ∨ k = 5) : ((namesFrom (namesU k) (loK k)).map Prod.fst).Nodup := by
  rcases h with rfl | rfl <;> decide
theorem nameMap_none (k : Nat) (low : List UInt8) (h : lookIx k low = none) (z : DataW Unit) : (nameMap k).atKey (.string low) z = z ∧ has (nameMap k) (.string low) = false := by
  have hf := find_from (namesU k) (loK k) low
  unfold lookIx at h
  rw [h] at hf
  have hq := putF_not (namesFrom (namesU k) (loK k)) (.map []) low z (fun p hp e => by
    have := List.find?_eq_none.1 hf p hp
    simp [e] at this)
  unfold nameMap
  rw [hq.1, hq.2]
  exact ⟨rfl, rfl⟩
theorem nameMap_some (k : Nat) (hk : k = 4 ∨ k = 5) (low : List UInt8) (i : Nat) (h : lookIx k low = some i) (z : DataW Unit) : (nameMap k).atKey (.string low) z = .lit (.int .u64 ((i + loK k : Nat) : Int)) ∧ has (nameMap k) (.string low) = true := by
  have hf := find_from (namesU k) (loK k) low
  unfold lookIx at h
  rw [h] at hf
  exact putF_in _ _ low _ z isMap_empty (nameMap_nodup k hk) hf
end Go.Proofs.YtkhggefbkhdimaaGreatDoor
