/- spec.isDigit, isIdent, Digits, ValidIdent. -/
import Derived.Test.YtjlbljajgkiniaaDoorPreRel
namespace Go.Proofs.YtjlbljajgkiniaaDoor
open Go.RowKit
set_option linter.unusedVariables false
set_option linter.unusedSimpArgs false

def dgI (x : Int) : Bool := decide (48 ≤ x) && decide (x ≤ 57)
def idI (x : Int) : Bool := dgI x || (decide (65 ≤ x) && decide (x ≤ 90)) || (decide (97 ≤ x) && decide (x ≤ 122)) || decide (x = 45)
def allB (f : Int → Bool) (s : ByteArray) : Bool := s.data.toList.all fun b => f (b.toNat : Int)
def neB (s : ByteArray) : Bool := !s.toList.isEmpty
/-- Digits alone, at least one. -/
def digB (s : ByteArray) : Bool := allB dgI s && neB s
/-- A valid identifier. -/
def vidB (s : ByteArray) : Bool := allB idI s && neB s

theorem allB_stop (f : Int → Bool) (s : ByteArray) (k : Nat) (hk : k < s.size) (x : Int) (hx : x = (s[k].toNat : Int)) (h : f x = false) : allB f s = false := by
  subst hx
  unfold allB
  rw [List.all_eq_false]
  exact ⟨s[k], by rw [str_get]; exact List.getElem_mem _, by simp [h]⟩
theorem allB_end (f : Int → Bool) (s : ByteArray) (h : ∀ j, (hj : j < s.size) → f (s[j].toNat : Int) = true) : allB f s = true := by
  unfold allB
  rw [List.all_eq_true]
  intro b hb
  obtain ⟨j, hj, rfl⟩ := List.mem_iff_getElem.1 hb
  exact h j (by rw [← str_len]; exact hj)
theorem upto_step (f : Int → Bool) (s : ByteArray) (k : Nat) (hk : k < s.size) (x : Int) (hx : x = (s[k].toNat : Int)) (h : f x = true) (h0 : ∀ j, (hj : j < s.size) → j < k → f (s[j].toNat : Int) = true) : ∀ j, (hj : j < s.size) → j < k + 1 → f (s[j].toNat : Int) = true := by
  intro j hj hjk
  rcases Nat.lt_or_ge j k with h1 | h1
  · exact h0 j hj h1
  · have : j = k := by omega
    subst this
    rw [← hx]; exact h

set_option maxHeartbeats 400000 in
theorem isDigit_any (x : Int) (w : World) :
    Calls Tryd.prog 72 #[.int .u8 x] w fun e w' => e = .returned (.bool (dgI x)) ∧ w = w' := by
  unfold dgI
  by_cases h1 : 48 ≤ x
  · by_cases h2 : x ≤ 57
    · simp only [h1, h2, decide_true, Bool.and_self]
      go_enter Tryd.func72, Tryd.ntmps72
      go_wp2_with fail
      go_ret
      exact ⟨rfl, rfl⟩
    · simp only [h1, h2, decide_true, decide_false, Bool.and_false]
      go_enter Tryd.func72, Tryd.ntmps72
      go_wp2_with fail
      go_ret
      exact ⟨rfl, rfl⟩
  · simp only [h1, decide_false, Bool.false_and]
    go_enter Tryd.func72, Tryd.ntmps72
    go_wp2_with fail
    go_ret
    exact ⟨rfl, rfl⟩

set_option maxHeartbeats 2000000 in
theorem isIdent_any (x : Int) (w : World) :
    Calls Tryd.prog 79 #[.int .u8 x] w fun e w' => e = .returned (.bool (idI x)) ∧ w = w' := by
  have hd := isDigit_any x w
  unfold idI
  generalize dgI x = d at hd
  cases d
  · by_cases h1 : 65 ≤ x
    · by_cases h2 : x ≤ 90
      · simp only [h1, h2, decide_true, decide_false, Bool.and_self, Bool.false_or, Bool.or_false, Bool.true_or, Bool.or_true, Bool.and_true, Bool.false_and, Bool.and_false]
        go_enter Tryd.func79, Tryd.ntmps79
        go_wp2_with (first | (go_at_call 72; refine hd.mono ?_; rintro e w' ⟨rfl, rfl⟩))
        go_ret
        exact ⟨ret_bool (by first | rfl | simp [h2, h4] | simp [h2]), rfl⟩
      · by_cases h3 : 97 ≤ x
        · by_cases h4 : x ≤ 122
          · have h5 : ¬ x = 45 := by omega
            simp only [h1, h2, h3, h4, h5, decide_true, decide_false, Bool.and_self, Bool.false_or, Bool.or_false, Bool.true_or, Bool.or_true, Bool.and_true, Bool.false_and, Bool.and_false]
            go_enter Tryd.func79, Tryd.ntmps79
            go_wp2_with (first | (go_at_call 72; refine hd.mono ?_; rintro e w' ⟨rfl, rfl⟩))
            go_ret
            exact ⟨ret_bool (by first | rfl | simp [h2, h4] | simp [h2]), rfl⟩
          · have h5 : ¬ x = 45 := by omega
            have h6 : (x == 45) = false := by simpa using h5
            simp only [h1, h2, h3, h4, h5, decide_true, decide_false, Bool.and_self, Bool.false_or, Bool.or_false, Bool.true_or, Bool.or_true, Bool.and_true, Bool.false_and, Bool.and_false]
            go_enter Tryd.func79, Tryd.ntmps79
            go_wp2_with (first | (go_at_call 72; refine hd.mono ?_; rintro e w' ⟨rfl, rfl⟩))
            go_ret
            exact ⟨ret_bool (by first | rfl | simp [h2, h4] | simp [h2]), rfl⟩
        · have h5 : ¬ x = 45 := by omega
          have h6 : (x == 45) = false := by simpa using h5
          simp only [h1, h2, h3, h5, decide_true, decide_false, Bool.and_self, Bool.false_or, Bool.or_false, Bool.true_or, Bool.or_true, Bool.and_true, Bool.false_and, Bool.and_false]
          go_enter Tryd.func79, Tryd.ntmps79
          go_wp2_with (first | (go_at_call 72; refine hd.mono ?_; rintro e w' ⟨rfl, rfl⟩))
          go_ret
          exact ⟨ret_bool (by first | rfl | simp [h2, h4] | simp [h2]), rfl⟩
    · have h3 : ¬ 97 ≤ x := by omega
      have h6 : decide (x = 45) = (x == 45) := by simp [BEq.beq]
      rw [h6]
      cases h7 : (x == 45)
      all_goals
        simp only [h1, h3, decide_true, decide_false, Bool.and_self, Bool.false_or, Bool.or_false, Bool.true_or, Bool.or_true, Bool.and_true, Bool.false_and, Bool.and_false]
        go_enter Tryd.func79, Tryd.ntmps79
        go_wp2_with (first | (go_at_call 72; refine hd.mono ?_; rintro e w' ⟨rfl, rfl⟩))
        go_ret
        exact ⟨ret_bool (by first | rfl | simp [h2, h4] | simp [h2]), rfl⟩
  · simp only [Bool.true_or]
    go_enter Tryd.func79, Tryd.ntmps79
    go_wp2_with (first | (go_at_call 72; refine hd.mono ?_; rintro e w' ⟨rfl, rfl⟩))
    go_ret
    exact ⟨ret_bool (by first | rfl | simp [h2, h4] | simp [h2]), rfl⟩

set_option maxRecDepth 100000 in
set_option maxHeartbeats 1000000 in
theorem digits_any (s : ByteArray) (hs : s.size ≤ 2147483654) (w : World) :
    Calls Tryd.prog 56 #[.string s] w fun e w' => e = .returned (.bool (digB s)) ∧ w = w' := by
  go_enter Tryd.func56, Tryd.ntmps56
  go_wp2_with fail
  go_loop [3] (fun i => ∃ k : Nat, k ≤ s.size ∧ i = .int .i64 k ∧ Hid (∀ j, (hj : j < s.size) → j < k → dgI (s[j].toNat : Int) = true)) (fun i => s.size - (intOf i).toNat)
  case atStart => exact ⟨0, by omega, rfl, fun j _ h => absurd h (Nat.not_lt_zero j)⟩
  case round =>
    obtain ⟨k, hk, rfl, hf⟩ := hrel
    by_cases hlt : k < s.size
    · obtain ⟨x, hx⟩ : ∃ x : Int, x = (s[k].toNat : Int) := ⟨_, rfl⟩
      have HI := idxS s k hlt x hx
      have HX := Lib.hid hx
      clear hx
      cases hd : dgI x with
      | true =>
        have HN := Lib.hid (upto_step dgI s k hlt x HX.out hd hf.out)
        go_wp2_with (first | (go_at_call 72; refine (isDigit_any _ _).mono ?_; rintro e w' ⟨rfl, rfl⟩))
        go_round
        case rel => exact ⟨k + 1, by omega, by go_num, HN⟩
        case measure => simp [intOf]; omega
      | false =>
        have HN := Lib.hid (allB_stop dgI s k hlt x HX.out hd)
        go_wp2_with (first | (go_at_call 72; refine (isDigit_any _ _).mono ?_; rintro e w' ⟨rfl, rfl⟩))
        go_ret
        exact ⟨ret_bool (by unfold digB; rw [HN.out]; rfl), rfl⟩
    · have HN := Lib.hid (allB_end dgI s (fun j hj => hf.out j hj (by omega)))
      cases he : s.toList.isEmpty with
      | true =>
        have hs1 : s.toList = [] := by simpa using he
        have HE := Lib.hid he
        clear he
        go_wp2_with fail
        go_ret
        exact ⟨ret_bool (by unfold digB neB; rw [HN.out, HE.out]; rfl), rfl⟩
      | false =>
        go_wp2_with fail
        go_ret
        exact ⟨ret_bool (by unfold digB neB; rw [HN.out, he]; rfl), rfl⟩

set_option maxRecDepth 100000 in
set_option maxHeartbeats 1000000 in
theorem validIdent_any (s : ByteArray) (hs : s.size ≤ 2147483654) (w : World) :
    Calls Tryd.prog 61 #[.string s] w fun e w' => e = .returned (.bool (vidB s)) ∧ w = w' := by
  go_enter Tryd.func61, Tryd.ntmps61
  go_wp2_with fail
  go_loop [3] (fun i => ∃ k : Nat, k ≤ s.size ∧ i = .int .i64 k ∧ Hid (∀ j, (hj : j < s.size) → j < k → idI (s[j].toNat : Int) = true)) (fun i => s.size - (intOf i).toNat)
  case atStart => exact ⟨0, by omega, rfl, fun j _ h => absurd h (Nat.not_lt_zero j)⟩
  case round =>
    obtain ⟨k, hk, rfl, hf⟩ := hrel
    by_cases hlt : k < s.size
    · obtain ⟨x, hx⟩ : ∃ x : Int, x = (s[k].toNat : Int) := ⟨_, rfl⟩
      have HI := idxS s k hlt x hx
      have HX := Lib.hid hx
      clear hx
      cases hd : idI x with
      | true =>
        have HN := Lib.hid (upto_step idI s k hlt x HX.out hd hf.out)
        go_wp2_with (first | (go_at_call 79; refine (isIdent_any _ _).mono ?_; rintro e w' ⟨rfl, rfl⟩))
        go_round
        case rel => exact ⟨k + 1, by omega, by go_num, HN⟩
        case measure => simp [intOf]; omega
      | false =>
        have HN := Lib.hid (allB_stop idI s k hlt x HX.out hd)
        go_wp2_with (first | (go_at_call 79; refine (isIdent_any _ _).mono ?_; rintro e w' ⟨rfl, rfl⟩))
        go_ret
        exact ⟨ret_bool (by unfold vidB; rw [HN.out]; rfl), rfl⟩
    · have HN := Lib.hid (allB_end idI s (fun j hj => hf.out j hj (by omega)))
      cases he : s.toList.isEmpty with
      | true =>
        have hs1 : s.toList = [] := by simpa using he
        have HE := Lib.hid he
        clear he
        go_wp2_with fail
        go_ret
        exact ⟨ret_bool (by unfold vidB neB; rw [HN.out, HE.out]; rfl), rfl⟩
      | false =>
        go_wp2_with fail
        go_ret
        exact ⟨ret_bool (by unfold vidB neB; rw [HN.out, he]; rfl), rfl⟩
end Go.Proofs.YtjlbljajgkiniaaDoor
