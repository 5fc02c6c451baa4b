/- Small functions of spec over a field's text. -/
import Derived.Test.YtkhggefbkhdimaaDoorWk
import Derived.Test.YtkhggefbkhdimaaDoorPVal
namespace Go.Proofs.YtkhggefbkhdimaaDoor
open Go.RowKit
set_option linter.unusedVariables false
set_option linter.unusedSimpArgs false

set_option maxHeartbeats 1000000 in
theorem worse_any (a b : Nat) (ha : a ≤ 2) (hb : b ≤ 2) (w : World) :
    Calls Tryd.prog 18 #[.int .i64 a, .int .i64 b] w fun e w' => e = .returned (.int .i64 (worseN a b : Nat)) ∧ w = w' := by
  have ha' : a = 0 ∨ a = 1 ∨ a = 2 := by omega
  have hb' : b = 0 ∨ b = 1 ∨ b = 2 := by omega
  rcases ha' with rfl | rfl | rfl <;> rcases hb' with rfl | rfl | rfl
  all_goals
    go_enter Tryd.func18, Tryd.ntmps18
    go_wp2_with fail
    go_ret
    exact ⟨rfl, rfl⟩
set_option maxHeartbeats 400000 in
theorem isDigit_any (c : UInt8) (w : World) :
    Calls Tryd.prog 65 #[.int .u8 c.toNat] w fun e w' => e = .returned (.bool (digB c)) ∧ w = w' := by
  unfold digB
  generalize c.toNat = x
  by_cases h1 : 48 ≤ x
  · by_cases h2 : x ≤ 57
    · have q1 : decide ((48 : Int) ≤ (x : Int)) = true := decide_eq_true (by omega)
      have q2 : decide ((x : Int) ≤ 57) = true := decide_eq_true (by omega)
      simp only [h1, h2, decide_true, Bool.and_self]
      go_enter Tryd.func65, Tryd.ntmps65
      go_wp2_with fail
      go_ret
      exact ⟨rfl, rfl⟩
    · have q1 : decide ((48 : Int) ≤ (x : Int)) = true := decide_eq_true (by omega)
      have q2 : decide ((x : Int) ≤ 57) = false := decide_eq_false (by omega)
      simp only [h1, h2, decide_true, decide_false, Bool.and_false]
      go_enter Tryd.func65, Tryd.ntmps65
      go_wp2_with fail
      go_ret
      exact ⟨rfl, rfl⟩
  · have q1 : decide ((48 : Int) ≤ (x : Int)) = false := decide_eq_false (by omega)
    simp only [h1, decide_false, Bool.false_and]
    go_enter Tryd.func65, Tryd.ntmps65
    go_wp2_with fail
    go_ret
    exact ⟨rfl, rfl⟩
theorem all_stop (f : UInt8 → Bool) (s : ByteArray) (k : Nat) (hk : k < s.size) (h : f s[k] = false) : s.data.toList.all f = false := by
  rw [List.all_eq_false]
  exact ⟨s[k], by rw [str_get]; exact List.getElem_mem _, by simp [h]⟩
theorem all_end (f : UInt8 → Bool) (s : ByteArray) (h : ∀ j, (hj : j < s.size) → f s[j] = true) : s.data.toList.all f = true := by
  rw [List.all_eq_true]
  intro b hb
  obtain ⟨j, hj, rfl⟩ := List.mem_iff_getElem.1 hb
  exact h j (by rw [← str_len]; exact hj)
theorem all_next (f : UInt8 → Bool) (s : ByteArray) (k : Nat) (hk : k < s.size) (h : f s[k] = true) (h0 : ∀ j, (hj : j < s.size) → j < k → f s[j] = true) : ∀ j, (hj : j < s.size) → j < k + 1 → f s[j] = true := by
  intro j hj hjk
  rcases Nat.lt_or_ge j k with h1 | h1
  · exact h0 j hj h1
  · have : j = k := by omega
    subst this
    exact h
set_option maxHeartbeats 2000000 in
theorem zeros_any (s : ByteArray) (hs : s.size ≤ 2147483654) (w : World) :
    Calls Tryd.prog 64 #[.string s] w fun e w' => e = .returned (.bool (zerosB s.data.toList)) ∧ w = w' := by
  go_enter Tryd.func64, Tryd.ntmps64
  go_wp2_with fail
  go_loop [6] (fun i => ∃ k : Nat, k ≤ s.size ∧ i = .int .i64 k ∧ Hid (∀ j, (hj : j < s.size) → j < k → (fun c : UInt8 => c.toNat == 48) s[j] = true)) (fun i => s.size - (intOf i).toNat)
  case atStart => exact ⟨0, by omega, rfl, fun j _ h => absurd h (Nat.not_lt_zero j)⟩
  case round =>
    obtain ⟨k, hk, rfl, hf⟩ := hrel
    by_cases hlt : k < s.size
    · obtain ⟨x, hx⟩ : ∃ x : Int, x = (s[k].toNat : Int) := ⟨_, rfl⟩
      have HI := idxS s k hlt x hx
      by_cases hd : x = 48
      · have HN := Lib.hid (all_next (fun c : UInt8 => c.toNat == 48) s k hlt (by simp only [beq_iff_eq]; omega) hf.out)
        have q : (x != 48) = false := by simp [hd]
        clear hx
        go_wp2_with fail
        go_round
        case rel => exact ⟨k + 1, by omega, by go_num, HN⟩
        case measure => simp [intOf]; omega
      · have HN := Lib.hid (all_stop (fun c : UInt8 => c.toNat == 48) s k hlt (by simp only [beq_eq_false_iff_ne]; omega))
        have q : (x != 48) = true := by simp [hd]
        clear hx
        go_wp2_with fail
        go_ret
        exact ⟨ret_bool (by unfold zerosB; rw [HN.out]), rfl⟩
    · have HN := Lib.hid (all_end (fun c : UInt8 => c.toNat == 48) s (fun j hj => hf.out j hj (by omega)))
      go_wp2_with fail
      go_ret
      exact ⟨ret_bool (by unfold zerosB; rw [HN.out]), rfl⟩
end Go.Proofs.YtkhggefbkhdimaaDoor
