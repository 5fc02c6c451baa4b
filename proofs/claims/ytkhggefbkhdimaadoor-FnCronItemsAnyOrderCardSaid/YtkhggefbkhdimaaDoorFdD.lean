/- spec.cronUpper, spec.cronSame. -/
import Derived.Test.YtkhggefbkhdimaaDoorFdC
import Derived.Deep.QuietTactic
import Derived.BigQuiet
namespace Go.Proofs.YtkhggefbkhdimaaDoor
open Go.RowKit
set_option linter.unusedVariables false
set_option linter.unusedSimpArgs false

set_option maxHeartbeats 1000000 in
theorem upper_any (c : UInt8) (w : World) :
    Calls Tryd.prog 85 #[.int .u8 c.toNat] w fun e w' => e = .returned (.int .u8 (upN c.toNat : Nat)) ∧ w = w' := by
  have hx : c.toNat < 256 := UInt8.toNat_lt c
  generalize c.toNat = x at hx
  unfold upN
  by_cases h1 : 97 ≤ x
  · have q1 : decide ((97 : Int) ≤ (x : Int)) = true := decide_eq_true (by omega)
    by_cases h2 : x ≤ 122
    · have q2 : decide ((x : Int) ≤ 122) = true := decide_eq_true (by omega)
      have HE : Hid ((x : Int) - 97 + 65 = ((x - 32 : Nat) : Int)) := Lib.hid (by omega)
      rw [if_pos ⟨h1, h2⟩, ← HE.out]
      go_enter Tryd.func85, Tryd.ntmps85
      go_wp2_with fail
      go_ret
      exact ⟨rfl, rfl⟩
    · have q2 : decide ((x : Int) ≤ 122) = false := decide_eq_false (by omega)
      rw [if_neg (by omega)]
      go_enter Tryd.func85, Tryd.ntmps85
      go_wp2_with fail
      go_ret
      exact ⟨rfl, rfl⟩
  · have q1 : decide ((97 : Int) ≤ (x : Int)) = false := decide_eq_false (by omega)
    rw [if_neg (by omega)]
    go_enter Tryd.func85, Tryd.ntmps85
    go_wp2_with fail
    go_ret
    exact ⟨rfl, rfl⟩

/-- Two texts are the same but for small and capital letters. -/
def sameB (a b : ByteArray) : Bool := a.data.toList.map (fun c => upN c.toNat) == b.data.toList.map (fun c => upN c.toNat)
theorem same_len (a b : ByteArray) (h : a.size ≠ b.size) : sameB a b = false := by
  unfold sameB
  rw [beq_eq_false_iff_ne]
  intro e
  have := congrArg List.length e
  rw [List.length_map, List.length_map, str_len, str_len] at this
  exact h this
theorem same_stop (a b : ByteArray) (k : Nat) (ha : k < a.size) (hb : k < b.size) (h : upN a[k].toNat ≠ upN b[k].toNat) : sameB a b = false := by
  unfold sameB
  rw [beq_eq_false_iff_ne]
  intro e
  have h2 := congrArg (fun l => l[k]?) e
  simp only [List.getElem?_map] at h2
  rw [List.getElem?_eq_getElem (by rw [str_len]; exact ha), List.getElem?_eq_getElem (by rw [str_len]; exact hb)] at h2
  simp only [Option.map_some, Option.some.injEq] at h2
  refine h ?_
  rw [str_get, str_get]
  exact h2
theorem same_end (a b : ByteArray) (hl : a.size = b.size) (h : ∀ j, (ha : j < a.size) → (hb : j < b.size) → upN a[j].toNat = upN b[j].toNat) : sameB a b = true := by
  unfold sameB
  rw [beq_iff_eq]
  refine List.ext_getElem (by rw [List.length_map, List.length_map, str_len, str_len]; exact hl) (fun j h1 h2 => ?_)
  have h3 := h j (by rw [List.length_map, str_len] at h1; exact h1) (by rw [List.length_map, str_len] at h2; exact h2)
  rw [str_get, str_get] at h3
  rw [List.getElem_map, List.getElem_map]
  exact h3
end Go.Proofs.YtkhggefbkhdimaaDoor
