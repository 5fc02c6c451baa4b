/- The lowered form of any text (cron.zzLower), plain. -/
import Derived.Test.YtkhggefbkhdimaaDoorPVal
import Derived.Lib.TrimU
import Derived.Lib.FieldsU
import Derived.Lib.OthersKept
namespace Go.Proofs.YtkhggefbkhdimaaDoor
open Go.Lib
set_option linter.unusedVariables false

/-- What a character of a text becomes. -/
def lowR (r : Nat) : List UInt8 := if 65 ≤ r ∧ r ≤ 90 then [UInt8.ofNat (r + 32)] else if r = 304 then [105] else if r = 8490 then [107] else (Utf8.encode (r : Int)).data.toList
def lowF (s : ByteArray) : Nat → Nat → List UInt8
  | 0, _ => []
  | f + 1, pos => if pos < s.size then lowR (Utf8.decode s pos).1 ++ lowF s f (pos + (Utf8.decode s pos).2) else []
/-- cron.zzLower. -/
def lowG (s : ByteArray) : List UInt8 := lowF s s.size 0
theorem low_end (s : ByteArray) (f pos : Nat) (h : ¬ pos < s.size) : lowF s f pos = [] := by
  cases f with
  | zero => rfl
  | succ f => unfold lowF; rw [if_neg h]
theorem low_fuel (s : ByteArray) : ∀ f g pos : Nat, s.size ≤ pos + f → s.size ≤ pos + g → lowF s f pos = lowF s g pos
  | 0, g, pos, h, _ => by rw [low_end s 0 pos (by omega), low_end s g pos (by omega)]
  | f + 1, 0, pos, _, h => by rw [low_end s 0 pos (by omega), low_end s (f + 1) pos (by omega)]
  | f + 1, g + 1, pos, h1, h2 => by
    unfold lowF
    split
    · have hw := width_pos s pos
      rw [low_fuel s f g _ (by omega) (by omega)]
    · rfl
theorem width_in (s : ByteArray) (pos : Nat) (h : pos < s.size) : pos + (Utf8.decode s pos).2 ≤ s.size := by
  rw [decode_at]
  have := decodeN_le_n' (s.size - pos) (s.get! pos).toNat (s.get! (pos + 1)).toNat (s.get! (pos + 2)).toNat (s.get! (pos + 3)).toNat (by omega)
  omega
theorem low_step (s : ByteArray) (pos : Nat) (h : pos < s.size) : lowF s (s.size - pos) pos = lowR (Utf8.decode s pos).1 ++ lowF s (s.size - (pos + (Utf8.decode s pos).2)) (pos + (Utf8.decode s pos).2) := by
  obtain ⟨f, hf⟩ : ∃ f, s.size - pos = f + 1 := ⟨s.size - pos - 1, by omega⟩
  rw [hf]
  conv => lhs; unfold lowF
  rw [if_pos h]
  congr 1
  have hw := width_pos s pos
  exact low_fuel s _ _ _ (by omega) (by omega)
theorem encode_four (r : Int) : (Utf8.encode r).size ≤ 4 := by
  unfold Utf8.encode
  dsimp only
  generalize (if Utf8.valid r = true then r.toNat else Utf8.runeError) = c
  split
  · exact (by decide : (1 : Nat) ≤ 4)
  · split
    · exact (by decide : (2 : Nat) ≤ 4)
    · split
      · exact (by decide : (3 : Nat) ≤ 4)
      · exact Nat.le_refl 4
theorem lowR_len (r : Nat) : (lowR r).length ≤ 4 := by
  unfold lowR
  split
  · exact (by decide : (1 : Nat) ≤ 4)
  · split
    · exact (by decide : (1 : Nat) ≤ 4)
    · split
      · exact (by decide : (1 : Nat) ≤ 4)
      · have := encode_four (r : Int)
        rw [str_len]
        exact this
theorem encode_low (b : UInt8) (h : b.toNat < 128) : (Utf8.encode (b.toNat : Int)).data.toList = [b] := by
  have v : Utf8.valid (b.toNat : Int) = true := by simp [Utf8.valid]; omega
  have c1 : b.toNat < 128 := by omega
  simp [Utf8.encode, v, c1]
theorem lowR_byte (b : UInt8) (h : b.toNat < 128) : lowR b.toNat = [lowU b] := by
  unfold lowR lowU lowN
  by_cases h1 : 65 ≤ b.toNat ∧ b.toNat ≤ 90
  · rw [if_pos h1, if_pos h1]
  · have h2 : ¬ b.toNat = 304 := by omega
    have h3 : ¬ b.toNat = 8490 := by omega
    rw [if_neg h1, if_neg h1, if_neg h2, if_neg h3, encode_low b h, UInt8.ofNat_toNat]
theorem low_map (s : ByteArray) (ha : asciiB s.data.toList = true) : ∀ f pos : Nat, s.size ≤ pos + f → lowF s f pos = (s.data.toList.drop pos).map lowU
  | 0, pos, h => by
    have hl : s.data.toList.length ≤ pos := by rw [Array.length_toList]; exact (by simpa using h)
    rw [low_end s 0 pos (by omega), List.drop_eq_nil_of_le hl]
    rfl
  | f + 1, pos, h => by
    by_cases hp : pos < s.size
    · have hp2 : pos < s.data.toList.length := by rw [Array.length_toList]; exact hp
      have hb : (s.data.toList[pos]).toNat < 128 := by
        unfold asciiB at ha
        have := List.all_eq_true.1 ha _ (List.getElem_mem hp2)
        simpa using this
      have hd := decode_ascii s pos hp hb
      unfold lowF
      rw [if_pos hp, hd]
      dsimp only
      rw [low_map s ha f (pos + 1) (by omega)]
      rw [List.drop_eq_getElem_cons hp2, List.map_cons]
      have := lowR_byte _ hb
      show lowR (s.data.toList[pos]).toNat ++ _ = _
      rw [this]
      rfl
    · have hl : s.data.toList.length ≤ pos := by rw [Array.length_toList]; exact (by have : ¬ pos < s.data.size := hp; omega)
      rw [low_end s (f + 1) pos hp, List.drop_eq_nil_of_le hl]
      rfl
theorem low_ascii (s : ByteArray) (ha : asciiB s.data.toList = true) : lowG s = s.data.toList.map lowU := by
  unfold lowG
  rw [low_map s ha _ 0 (by omega), List.drop_zero]
end Go.Proofs.YtkhggefbkhdimaaDoor
