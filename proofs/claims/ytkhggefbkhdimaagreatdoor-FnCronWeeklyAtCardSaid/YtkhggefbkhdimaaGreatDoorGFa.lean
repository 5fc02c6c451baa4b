/- Small functions of spec over a field's text. spec.cronForeign, spec.CronNumber. spec.CronNumber with a sign, of the empty text, of any text. spec.cronUpper, spec.cronSame. spec.cronSame. spec.CronLow, CronHigh, CronName. -/
import Derived.Test.YtkhggefbkhdimaaGreatDoorWk
import Derived.Test.YtkhggefbkhdimaaGreatDoorGPa
import Derived.Deep.QuietTactic
import Derived.BigQuiet
namespace Go.Proofs.YtkhggefbkhdimaaGreatDoor
open Go.RowKit
set_option linter.unusedVariables false
set_option linter.unusedSimpArgs false

set_option maxHeartbeats 1000000 in
theorem worse_any (a b : Nat) (ha : a ≤ 2) (hb : b ≤ 2) (w : World) :
    Calls Tryz.prog 84 #[.int .i64 a, .int .i64 b] w fun e w' => e = .returned (.int .i64 (worseN a b : Nat)) ∧ w = w' := by
  have ha' : a = 0 ∨ a = 1 ∨ a = 2 := by omega
  have hb' : b = 0 ∨ b = 1 ∨ b = 2 := by omega
  rcases ha' with rfl | rfl | rfl <;> rcases hb' with rfl | rfl | rfl
  all_goals
    go_enter Tryz.func84, Tryz.ntmps84
    go_wp2_with fail
    go_ret
    exact ⟨rfl, rfl⟩
set_option maxHeartbeats 400000 in
theorem isDigit_any (c : UInt8) (w : World) :
    Calls Tryz.prog 155 #[.int .u8 c.toNat] w fun e w' => e = .returned (.bool (digB c)) ∧ w = w' := by
  unfold digB
  generalize c.toNat = x
  by_cases h1 : 48 ≤ x
  · by_cases h2 : x ≤ 57
    · have q1 : decide ((48 : Int) ≤ (x : Int)) = true := decide_eq_true (by omega)
      have q2 : decide ((x : Int) ≤ 57) = true := decide_eq_true (by omega)
      simp only [h1, h2, decide_true, Bool.and_self]
      go_enter Tryz.func155, Tryz.ntmps155
      go_wp2_with fail
      go_ret
      exact ⟨rfl, rfl⟩
    · have q1 : decide ((48 : Int) ≤ (x : Int)) = true := decide_eq_true (by omega)
      have q2 : decide ((x : Int) ≤ 57) = false := decide_eq_false (by omega)
      simp only [h1, h2, decide_true, decide_false, Bool.and_false]
      go_enter Tryz.func155, Tryz.ntmps155
      go_wp2_with fail
      go_ret
      exact ⟨rfl, rfl⟩
  · have q1 : decide ((48 : Int) ≤ (x : Int)) = false := decide_eq_false (by omega)
    simp only [h1, decide_false, Bool.false_and]
    go_enter Tryz.func155, Tryz.ntmps155
    go_wp2_with fail
    go_ret
    exact ⟨rfl, rfl⟩
theorem all_stop (f : UInt8 → Bool) (s : ByteArray) (k : Nat) (hk : k < s.size) (h : f s[k] = false) : s.data.toList.all f = false := by
  rw [List.all_eq_false]
  exact ⟨s[k], by rw [str_get]; exact List.getElem_mem _, by simp [h]⟩
theorem all_end (f : UInt8 → Bool) (s : ByteArray) (h : ∀ j, (hj : j < s.size) → f s[j] = true) : s.data.toList.all f = true := by
  rw [List.all_eq_true]
  intro b hb
  obtain ⟨j, hj, rfl⟩ := List.mem_iff_getElem.1 hb
  exact h j (by rw [← str_len]; exact hj)
theorem all_next (f : UInt8 → Bool) (s : ByteArray) (k : Nat) (hk : k < s.size) (h : f s[k] = true) (h0 : ∀ j, (hj : j < s.size) → j < k → f s[j] = true) : ∀ j, (hj : j < s.size) → j < k + 1 → f s[j] = true := by
  intro j hj hjk
  rcases Nat.lt_or_ge j k with h1 | h1
  · exact h0 j hj h1
  · have : j = k := by omega
    subst this
    exact h
set_option maxHeartbeats 2000000 in
theorem zeros_any (s : ByteArray) (hs : s.size ≤ 2147483654) (w : World) :
    Calls Tryz.prog 169 #[.string s] w fun e w' => e = .returned (.bool (zerosB s.data.toList)) ∧ w = w' := by
  go_enter Tryz.func169, Tryz.ntmps169
  go_wp2_with fail
  go_loop [6] (fun i => ∃ k : Nat, k ≤ s.size ∧ i = .int .i64 k ∧ Hid (∀ j, (hj : j < s.size) → j < k → (fun c : UInt8 => c.toNat == 48) s[j] = true)) (fun i => s.size - (intOf i).toNat)
  case atStart => exact ⟨0, by omega, rfl, fun j _ h => absurd h (Nat.not_lt_zero j)⟩
  case round =>
    obtain ⟨k, hk, rfl, hf⟩ := hrel
    by_cases hlt : k < s.size
    · obtain ⟨x, hx⟩ : ∃ x : Int, x = (s[k].toNat : Int) := ⟨_, rfl⟩
      have HI := idxS s k hlt x hx
      by_cases hd : x = 48
      · have HN := Lib.hid (all_next (fun c : UInt8 => c.toNat == 48) s k hlt (by simp only [beq_iff_eq]; omega) hf.out)
        have q : (x != 48) = false := by simp [hd]
        clear hx
        go_wp2_with fail
        go_round
        case rel => exact ⟨k + 1, by omega, by go_num, HN⟩
        case measure => simp [intOf]; omega
      · have HN := Lib.hid (all_stop (fun c : UInt8 => c.toNat == 48) s k hlt (by simp only [beq_eq_false_iff_ne]; omega))
        have q : (x != 48) = true := by simp [hd]
        clear hx
        go_wp2_with fail
        go_ret
        exact ⟨ret_bool (by unfold zerosB; rw [HN.out]), rfl⟩
    · have HN := Lib.hid (all_end (fun c : UInt8 => c.toNat == 48) s (fun j hj => hf.out j hj (by omega)))
      go_wp2_with fail
      go_ret
      exact ⟨ret_bool (by unfold zerosB; rw [HN.out]), rfl⟩
end Go.Proofs.YtkhggefbkhdimaaGreatDoor

namespace Go.Proofs.YtkhggefbkhdimaaGreatDoor
open Go.RowKit
set_option linter.unusedVariables false
set_option linter.unusedSimpArgs false

set_option maxHeartbeats 2000000 in
theorem foreign_any (s : ByteArray) (hs : s.size ≤ 2147483654) (w : World) :
    Calls Tryz.prog 83 #[.string s] w fun e w' => e = .returned (.bool (!asciiB s.data.toList)) ∧ w = w' := by
  go_enter Tryz.func83, Tryz.ntmps83
  go_wp2_with fail
  go_loop [6] (fun i => ∃ k : Nat, k ≤ s.size ∧ i = .int .i64 k ∧ Hid (∀ j, (hj : j < s.size) → j < k → (fun c : UInt8 => decide (c.toNat < 128)) s[j] = true)) (fun i => s.size - (intOf i).toNat)
  case atStart => exact ⟨0, by omega, rfl, fun j _ h => absurd h (Nat.not_lt_zero j)⟩
  case round =>
    obtain ⟨k, hk, rfl, hf⟩ := hrel
    by_cases hlt : k < s.size
    · obtain ⟨x, hx⟩ : ∃ x : Int, x = (s[k].toNat : Int) := ⟨_, rfl⟩
      have HI := idxS s k hlt x hx
      by_cases hd : x < 128
      · have HN := Lib.hid (all_next (fun c : UInt8 => decide (c.toNat < 128)) s k hlt (decide_eq_true (by omega)) hf.out)
        have q : decide ((128 : Int) ≤ x) = false := decide_eq_false (by omega)
        clear hx
        go_wp2_with fail
        go_round
        case rel => exact ⟨k + 1, by omega, by go_num, HN⟩
        case measure => simp [intOf]; omega
      · have HN := Lib.hid (all_stop (fun c : UInt8 => decide (c.toNat < 128)) s k hlt (decide_eq_false (by omega)))
        have q : decide ((128 : Int) ≤ x) = true := decide_eq_true (by omega)
        clear hx
        go_wp2_with fail
        go_ret
        exact ⟨ret_bool (by unfold asciiB; rw [HN.out]; rfl), rfl⟩
    · have HN := Lib.hid (all_end (fun c : UInt8 => decide (c.toNat < 128)) s (fun j hj => hf.out j hj (by omega)))
      go_wp2_with fail
      go_ret
      exact ⟨ret_bool (by unfold asciiB; rw [HN.out]; rfl), rfl⟩

theorem fold_next (s : ByteArray) (k : Nat) (hk : k < s.size) : (s.data.toList.take (k + 1)).foldl satStep 0 = satStep ((s.data.toList.take k).foldl satStep 0) s[k] := by
  have hk' : k < s.data.toList.length := by rw [str_len]; exact hk
  rw [List.take_add_one, List.getElem?_eq_getElem hk', Option.toList_some, List.foldl_append, str_get]
  rfl
theorem ext1 (s : ByteArray) : (s.extract 1 s.size).data.toList = s.data.toList.drop 1 := by
  rw [Lib.extract_data, List.take_of_length_le (by rw [List.length_drop, str_len]; exact Nat.le_refl _)]
theorem ext1_size (s : ByteArray) : (s.extract 1 s.size).size = s.size - 1 := by simp
theorem fold_take_le (s : ByteArray) (k : Nat) : (s.data.toList.take k).foldl satStep 0 ≤ hugeN := fold_le _ _ (Nat.zero_le _)

set_option maxHeartbeats 4000000 in
theorem number_plain (s : ByteArray) (hs : s.size ≤ 2147483654) (h0 : 0 < s.size) (c : UInt8) (hc : s[0] = c) (h1 : c.toNat ≠ 43) (h2 : ¬(c.toNat = 45 ∧ zerosB (s.data.toList.drop 1) = true)) (w : World) :
    Calls Tryz.prog 165 #[.string s] w fun e w' => e = .returned (.tuple #[.int .i64 ((cnum s.data.toList).1 : Nat), .int .i64 ((cnum s.data.toList).2 : Nat)]) ∧ w = w' := by
  obtain ⟨r, hcons, hdrop⟩ : ∃ r, s.data.toList = c :: r ∧ s.data.toList.drop 1 = r := by
    have hl : 0 < s.data.toList.length := by rw [str_len]; exact h0
    have h3 := List.drop_eq_getElem_cons (l := s.data.toList) (i := 0) hl
    have e : s.data.toList[0] = c := by rw [← hc, str_get]
    rw [List.drop_zero, e] at h3
    exact ⟨_, h3, rfl⟩
  have hsg : ¬(c.toNat = 43 ∨ (c.toNat = 45 ∧ zerosB r = true)) := by
    rw [hdrop] at h2
    rintro (h | h)
    · exact h1 h
    · exact h2 h
  have HC : Hid ((s.data.toList.all digB = true → cnum s.data.toList = (s.data.toList.foldl satStep 0, 1)) ∧ (s.data.toList.all digB = false → cnum s.data.toList = (0, 0))) := by
    have e : cnum s.data.toList = if s.data.toList.all digB = true then (s.data.toList.foldl satStep 0, 1) else (0, 0) := by
      rw [hcons]
      unfold cnum
      rw [signL_cons, if_neg hsg]
      dsimp only
      rw [if_neg (by simp)]
    exact Lib.hid ⟨fun h => by rw [e, if_pos h], fun h => by rw [e, if_neg (by rw [h]; decide)]⟩
  have q1 : ¬ (c.toNat : Int) = 43 := by omega
  have q1b : ((c.toNat : Int) == 43) = false := by simp only [beq_eq_false_iff_ne]; exact q1
  have q0 : decide ((0 : Int) < (s.size : Int)) = true := decide_eq_true (by omega)
  have hne : s.toList.isEmpty = false := by
    have e : s.toList = s.data.toList := ByteArray.toList_eq _
    rw [e, hcons]; rfl
  clear hsg hcons
  by_cases h45 : (c.toNat : Int) = 45
  · have hz : zerosB (s.data.toList.drop 1) = false := by
      cases hz : zerosB (s.data.toList.drop 1) with
      | true => exact absurd ⟨by omega, hz⟩ h2
      | false => rfl
    have HZ := Lib.hid hz
    clear hz
    go_enter Tryz.func165, Tryz.ntmps165
    go_wp2_with (first | (go_at_call 169; refine (zeros_any _ (by rw [ext1_size]; omega) _).mono ?_; rintro e w' ⟨rfl, rfl⟩; rw [ext1, HZ.out]))
    go_loop [5, 31] (fun nv i => ∃ k : Nat, k ≤ s.size ∧ i = .int .i64 k ∧ (∃ n : Nat, nv = .int .i64 n ∧ Hid (n = (s.data.toList.take k).foldl satStep 0)) ∧ Hid (∀ j, (hj : j < s.size) → j < k → digB s[j] = true)) (fun nv i => s.size - (intOf i).toNat)
    case atStart => exact ⟨0, by omega, rfl, ⟨0, rfl, Lib.hid rfl⟩, fun j _ h => absurd h (Nat.not_lt_zero j)⟩
    case round =>
      obtain ⟨k, hk, rfl, ⟨n, rfl, hn⟩, hf⟩ := hrel
      by_cases hlt : k < s.size
      · obtain ⟨x, hx⟩ : ∃ x : Int, x = (s[k].toNat : Int) := ⟨_, rfl⟩
        have HI := idxS s k hlt x hx
        have HX := Lib.hid hx
        clear hx
        have hnl : n ≤ 1099511627776 := by have := fold_take_le s k; rw [← hn.out] at this; exact this
        cases hd : digB s[k] with
        | false =>
          have HN := Lib.hid (all_stop digB s k hlt hd)
          have HD := Lib.hid hd
          clear hd
          go_wp2_with (first | (go_at_call 155; rw [HX.out]; refine (isDigit_any _ _).mono ?_; rintro e w' ⟨rfl, rfl⟩; rw [HD.out]))
          go_ret2
          exact ⟨by rw [HC.out.2 HN.out]; rfl, rfl⟩
        | true =>
          have HN := Lib.hid (all_next digB s k hlt hd hf.out)
          have hxb : 48 ≤ x ∧ x ≤ 57 := by
            have := hd
            unfold digB at this
            simp only [Bool.and_eq_true, decide_eq_true_eq] at this
            have := HX.out
            omega
          have HD := Lib.hid hd
          clear hd
          have HS : Hid (satStep n s[k] = (s.data.toList.take (k + 1)).foldl satStep 0) := Lib.hid (by rw [fold_next s k hlt, hn.out])
          by_cases hm : 10 * (n : Int) + (x - 48) ≤ 1099511627776
          · have HM : Hid (10 * (n : Int) + (x - 48) = (((s.data.toList.take (k + 1)).foldl satStep 0 : Nat) : Int)) := Lib.hid (by rw [← HS.out]; unfold satStep hugeN; have := HX.out; omega)
            go_wp2_with (first | (go_at_call 155; rw [HX.out]; refine (isDigit_any _ _).mono ?_; rintro e w' ⟨rfl, rfl⟩; rw [HD.out]))
            rw [HM.out]
            go_round
            case rel => first | exact ⟨k + 1, by omega, by go_num, ⟨_, rfl, Lib.hid rfl⟩, HN⟩ | (refine ⟨trivial, _, _, _, _, _, _, _, _, _, _, _, _, _, _, _, _, _, _, _, _, _, _, ?_, rfl⟩; exact ⟨k + 1, by omega, by go_num, ⟨_, rfl, Lib.hid rfl⟩, HN⟩)
            case measure => simp [intOf]; omega
          · have HM : Hid ((1099511627776 : Int) = (((s.data.toList.take (k + 1)).foldl satStep 0 : Nat) : Int)) := Lib.hid (by rw [← HS.out]; unfold satStep hugeN; have := HX.out; omega)
            go_wp2_with (first | (go_at_call 155; rw [HX.out]; refine (isDigit_any _ _).mono ?_; rintro e w' ⟨rfl, rfl⟩; rw [HD.out]))
            go_round
            case rel => first | exact ⟨k + 1, by omega, by go_num, ⟨_, congrArg (Value.int .i64) HM.out, Lib.hid rfl⟩, HN⟩ | (refine ⟨trivial, _, _, _, _, _, _, _, _, _, _, _, _, _, _, _, _, _, _, _, _, _, _, ?_, rfl⟩; exact ⟨k + 1, by omega, by go_num, ⟨_, congrArg (Value.int .i64) HM.out, Lib.hid rfl⟩, HN⟩)
            case measure => simp [intOf]; omega
      · have HN := Lib.hid (all_end digB s (fun j hj => hf.out j hj (by omega)))
        have HF : Hid (n = s.data.toList.foldl satStep 0) := Lib.hid (by rw [hn.out, List.take_of_length_le (by rw [str_len]; omega)])
        go_wp2_with fail
        go_ret2
        exact ⟨by rw [HC.out.1 HN.out, HF.out]; rfl, rfl⟩
  · have q2b : ((c.toNat : Int) == 45) = false := by simp only [beq_eq_false_iff_ne]; exact h45
    go_enter Tryz.func165, Tryz.ntmps165
    go_wp2_with fail
    go_loop [5, 31] (fun nv i => ∃ k : Nat, k ≤ s.size ∧ i = .int .i64 k ∧ (∃ n : Nat, nv = .int .i64 n ∧ Hid (n = (s.data.toList.take k).foldl satStep 0)) ∧ Hid (∀ j, (hj : j < s.size) → j < k → digB s[j] = true)) (fun nv i => s.size - (intOf i).toNat)
    case atStart => exact ⟨0, by omega, rfl, ⟨0, rfl, Lib.hid rfl⟩, fun j _ h => absurd h (Nat.not_lt_zero j)⟩
    case round =>
      obtain ⟨k, hk, rfl, ⟨n, rfl, hn⟩, hf⟩ := hrel
      by_cases hlt : k < s.size
      · obtain ⟨x, hx⟩ : ∃ x : Int, x = (s[k].toNat : Int) := ⟨_, rfl⟩
        have HI := idxS s k hlt x hx
        have HX := Lib.hid hx
        clear hx
        have hnl : n ≤ 1099511627776 := by have := fold_take_le s k; rw [← hn.out] at this; exact this
        cases hd : digB s[k] with
        | false =>
          have HN := Lib.hid (all_stop digB s k hlt hd)
          have HD := Lib.hid hd
          clear hd
          go_wp2_with (first | (go_at_call 155; rw [HX.out]; refine (isDigit_any _ _).mono ?_; rintro e w' ⟨rfl, rfl⟩; rw [HD.out]))
          go_ret2
          exact ⟨by rw [HC.out.2 HN.out]; rfl, rfl⟩
        | true =>
          have HN := Lib.hid (all_next digB s k hlt hd hf.out)
          have hxb : 48 ≤ x ∧ x ≤ 57 := by
            have := hd
            unfold digB at this
            simp only [Bool.and_eq_true, decide_eq_true_eq] at this
            have := HX.out
            omega
          have HD := Lib.hid hd
          clear hd
          have HS : Hid (satStep n s[k] = (s.data.toList.take (k + 1)).foldl satStep 0) := Lib.hid (by rw [fold_next s k hlt, hn.out])
          by_cases hm : 10 * (n : Int) + (x - 48) ≤ 1099511627776
          · have HM : Hid (10 * (n : Int) + (x - 48) = (((s.data.toList.take (k + 1)).foldl satStep 0 : Nat) : Int)) := Lib.hid (by rw [← HS.out]; unfold satStep hugeN; have := HX.out; omega)
            go_wp2_with (first | (go_at_call 155; rw [HX.out]; refine (isDigit_any _ _).mono ?_; rintro e w' ⟨rfl, rfl⟩; rw [HD.out]))
            rw [HM.out]
            go_round
            case rel => first | exact ⟨k + 1, by omega, by go_num, ⟨_, rfl, Lib.hid rfl⟩, HN⟩ | (refine ⟨trivial, _, _, _, _, _, _, _, _, _, _, _, _, _, _, _, _, _, _, _, _, _, _, ?_, rfl⟩; exact ⟨k + 1, by omega, by go_num, ⟨_, rfl, Lib.hid rfl⟩, HN⟩)
            case measure => simp [intOf]; omega
          · have HM : Hid ((1099511627776 : Int) = (((s.data.toList.take (k + 1)).foldl satStep 0 : Nat) : Int)) := Lib.hid (by rw [← HS.out]; unfold satStep hugeN; have := HX.out; omega)
            go_wp2_with (first | (go_at_call 155; rw [HX.out]; refine (isDigit_any _ _).mono ?_; rintro e w' ⟨rfl, rfl⟩; rw [HD.out]))
            go_round
            case rel => first | exact ⟨k + 1, by omega, by go_num, ⟨_, congrArg (Value.int .i64) HM.out, Lib.hid rfl⟩, HN⟩ | (refine ⟨trivial, _, _, _, _, _, _, _, _, _, _, _, _, _, _, _, _, _, _, _, _, _, _, ?_, rfl⟩; exact ⟨k + 1, by omega, by go_num, ⟨_, congrArg (Value.int .i64) HM.out, Lib.hid rfl⟩, HN⟩)
            case measure => simp [intOf]; omega
      · have HN := Lib.hid (all_end digB s (fun j hj => hf.out j hj (by omega)))
        have HF : Hid (n = s.data.toList.foldl satStep 0) := Lib.hid (by rw [hn.out, List.take_of_length_le (by rw [str_len]; omega)])
        go_wp2_with fail
        go_ret2
        exact ⟨by rw [HC.out.1 HN.out, HF.out]; rfl, rfl⟩
end Go.Proofs.YtkhggefbkhdimaaGreatDoor

namespace Go.Proofs.YtkhggefbkhdimaaGreatDoor
open Go.RowKit
set_option linter.unusedVariables false
set_option linter.unusedSimpArgs false

set_option maxHeartbeats 1000000 in
theorem number_empty (w : World) :
    Calls Tryz.prog 165 #[.string ⟨#[]⟩] w fun e w' => e = .returned (.tuple #[.int .i64 ((cnum []).1 : Nat), .int .i64 ((cnum []).2 : Nat)]) ∧ w = w' := by
  go_enter Tryz.func165, Tryz.ntmps165
  go_wp2_with fail
  go_ret2
  exact ⟨rfl, rfl⟩
set_option maxHeartbeats 4000000 in
theorem number_sign (s : ByteArray) (hs : s.size ≤ 2147483654) (h0 : 0 < s.size) (c : UInt8) (hc : s[0] = c) (hsn : c.toNat = 43 ∨ (c.toNat = 45 ∧ zerosB (s.data.toList.drop 1) = true)) (w : World) :
    Calls Tryz.prog 165 #[.string s] w fun e w' => e = .returned (.tuple #[.int .i64 ((cnum s.data.toList).1 : Nat), .int .i64 ((cnum s.data.toList).2 : Nat)]) ∧ w = w' := by
  obtain ⟨r, hcons, hdrop⟩ : ∃ r, s.data.toList = c :: r ∧ s.data.toList.drop 1 = r := by
    have hl : 0 < s.data.toList.length := by rw [str_len]; exact h0
    have h3 := List.drop_eq_getElem_cons (l := s.data.toList) (i := 0) hl
    have e : s.data.toList[0] = c := by rw [← hc, str_get]
    rw [List.drop_zero, e] at h3
    exact ⟨_, h3, rfl⟩
  obtain ⟨T, hT⟩ : ∃ T, T = s.extract 1 s.size := ⟨_, rfl⟩
  have hTl : T.data.toList = r := by rw [hT, ext1, hdrop]
  have hTs : T.size ≤ 2147483654 := by rw [hT, ext1_size]; omega
  rw [hdrop] at hsn
  have HC : Hid ((T.data.toList.all digB = true → T.data.toList ≠ [] → cnum s.data.toList = (T.data.toList.foldl satStep 0, 2)) ∧ (T.data.toList.all digB = false → cnum s.data.toList = (0, 0)) ∧ (T.data.toList = [] → cnum s.data.toList = (0, 0))) := by
    have e : cnum s.data.toList = if r = [] then (0, 0) else if r.all digB = true then (r.foldl satStep 0, 2) else (0, 0) := by
      rw [hcons]
      unfold cnum
      rw [signL_cons, if_pos hsn]
    rw [hTl]
    refine Lib.hid ⟨fun h h2 => by rw [e, if_neg h2, if_pos h], fun h => ?_, fun h => by rw [e, if_pos h]⟩
    rw [e]
    split
    · rfl
    · rw [if_neg (by rw [h]; decide)]
  have HT := Lib.hid hT
  have HTL := Lib.hid hTl
  have HSZ : Hid (s.size - 1 = T.size) := Lib.hid (by rw [HT.out, ext1_size])
  have q0 : decide ((0 : Int) < (s.size : Int)) = true := decide_eq_true (by omega)
  by_cases c43 : (c.toNat : Int) = 43
  · have q1b : ((c.toNat : Int) == 43) = true := by simp [c43]
    clear hsn hT hTl hcons
    cases he : (s.extract 1 s.size).toList.isEmpty with
    | true =>
      have HN : Hid (T.data.toList = []) := Lib.hid (by rw [HT.out, ← ByteArray.toList_eq]; simpa using he)
      go_enter Tryz.func165, Tryz.ntmps165
      go_wp2_with fail
      go_ret2
      exact ⟨by rw [HC.out.2.2 HN.out]; rfl, rfl⟩
    | false =>
      have hne : T.data.toList ≠ [] := by
        rw [HT.out, ← ByteArray.toList_eq]
        intro h
        rw [h] at he
        cases he
      have HC2 : Hid ((T.data.toList.all digB = true → cnum s.data.toList = (T.data.toList.foldl satStep 0, 2)) ∧ (T.data.toList.all digB = false → cnum s.data.toList = (0, 0))) := Lib.hid ⟨fun h => HC.out.1 h hne, HC.out.2.1⟩
      go_enter Tryz.func165, Tryz.ntmps165
      go_wp2_with fail
      rw [← HT.out, HSZ.out]
      go_loop [5, 31] (fun nv i => ∃ k : Nat, k ≤ T.size ∧ i = .int .i64 k ∧ (∃ n : Nat, nv = .int .i64 n ∧ Hid (n = (T.data.toList.take k).foldl satStep 0)) ∧ Hid (∀ j, (hj : j < T.size) → j < k → digB T[j] = true)) (fun nv i => T.size - (intOf i).toNat)
      case atStart => exact ⟨0, by omega, rfl, ⟨0, rfl, Lib.hid rfl⟩, fun j _ h => absurd h (Nat.not_lt_zero j)⟩
      case round =>
        obtain ⟨k, hk, rfl, ⟨n, rfl, hn⟩, hf⟩ := hrel
        by_cases hlt : k < T.size
        · obtain ⟨x, hx⟩ : ∃ x : Int, x = (T[k].toNat : Int) := ⟨_, rfl⟩
          have HI := idxS T k hlt x hx
          have HX := Lib.hid hx
          clear hx
          have hnl : n ≤ 1099511627776 := by have := fold_take_le T k; rw [← hn.out] at this; exact this
          cases hd : digB T[k] with
          | false =>
            have HN := Lib.hid (all_stop digB T k hlt hd)
            have HD := Lib.hid hd
            clear hd
            go_wp2_with (first | (go_at_call 155; rw [HX.out]; refine (isDigit_any _ _).mono ?_; rintro e w' ⟨rfl, rfl⟩; rw [HD.out]))
            go_ret2
            exact ⟨by rw [HC2.out.2 HN.out]; rfl, rfl⟩
          | true =>
            have HN := Lib.hid (all_next digB T k hlt hd hf.out)
            have hxb : 48 ≤ x ∧ x ≤ 57 := by
              have := hd
              unfold digB at this
              simp only [Bool.and_eq_true, decide_eq_true_eq] at this
              have := HX.out
              omega
            have HD := Lib.hid hd
            clear hd
            have HS : Hid (satStep n T[k] = (T.data.toList.take (k + 1)).foldl satStep 0) := Lib.hid (by rw [fold_next T k hlt, hn.out])
            by_cases hm : 10 * (n : Int) + (x - 48) ≤ 1099511627776
            · have HM : Hid (10 * (n : Int) + (x - 48) = (((T.data.toList.take (k + 1)).foldl satStep 0 : Nat) : Int)) := Lib.hid (by rw [← HS.out]; unfold satStep hugeN; have := HX.out; omega)
              go_wp2_with (first | (go_at_call 155; rw [HX.out]; refine (isDigit_any _ _).mono ?_; rintro e w' ⟨rfl, rfl⟩; rw [HD.out]))
              rw [HM.out]
              go_round
              case rel => first | exact ⟨k + 1, by omega, by go_num, ⟨_, rfl, Lib.hid rfl⟩, HN⟩ | (refine ⟨trivial, _, _, _, _, _, _, _, _, _, _, _, _, _, _, _, _, _, _, _, _, _, _, ?_, rfl⟩; exact ⟨k + 1, by omega, by go_num, ⟨_, rfl, Lib.hid rfl⟩, HN⟩)
              case measure => simp [intOf]; omega
            · have HM : Hid ((1099511627776 : Int) = (((T.data.toList.take (k + 1)).foldl satStep 0 : Nat) : Int)) := Lib.hid (by rw [← HS.out]; unfold satStep hugeN; have := HX.out; omega)
              go_wp2_with (first | (go_at_call 155; rw [HX.out]; refine (isDigit_any _ _).mono ?_; rintro e w' ⟨rfl, rfl⟩; rw [HD.out]))
              go_round
              case rel => first | exact ⟨k + 1, by omega, by go_num, ⟨_, congrArg (Value.int .i64) HM.out, Lib.hid rfl⟩, HN⟩ | (refine ⟨trivial, _, _, _, _, _, _, _, _, _, _, _, _, _, _, _, _, _, _, _, _, _, _, ?_, rfl⟩; exact ⟨k + 1, by omega, by go_num, ⟨_, congrArg (Value.int .i64) HM.out, Lib.hid rfl⟩, HN⟩)
              case measure => simp [intOf]; omega
        · have HN := Lib.hid (all_end digB T (fun j hj => hf.out j hj (by omega)))
          have HF : Hid (n = T.data.toList.foldl satStep 0) := Lib.hid (by rw [hn.out, List.take_of_length_le (by rw [str_len]; omega)])
          go_wp2_with fail
          go_ret2
          exact ⟨by rw [HC2.out.1 HN.out, HF.out]; rfl, rfl⟩
  · have q1b : ((c.toNat : Int) == 43) = false := by simp only [beq_eq_false_iff_ne]; exact c43
    have h45 : c.toNat = 45 ∧ zerosB r = true := hsn.resolve_left (by omega)
    have q2 : (c.toNat : Int) = 45 := by omega
    have q2b : ((c.toNat : Int) == 45) = true := by simp [q2]
    have HZ : Hid (zerosB (s.data.toList.drop 1) = true) := Lib.hid (by rw [hdrop]; exact h45.2)
    clear hsn hT hTl hcons h45
    cases he : (s.extract 1 s.size).toList.isEmpty with
    | true =>
      have HN : Hid (T.data.toList = []) := Lib.hid (by rw [HT.out, ← ByteArray.toList_eq]; simpa using he)
      go_enter Tryz.func165, Tryz.ntmps165
      go_wp2_with (first | (go_at_call 169; refine (zeros_any _ (by rw [ext1_size]; omega) _).mono ?_; rintro e w' ⟨rfl, rfl⟩; rw [ext1, HZ.out]))
      go_ret2
      exact ⟨by rw [HC.out.2.2 HN.out]; rfl, rfl⟩
    | false =>
      have hne : T.data.toList ≠ [] := by
        rw [HT.out, ← ByteArray.toList_eq]
        intro h
        rw [h] at he
        cases he
      have HC2 : Hid ((T.data.toList.all digB = true → cnum s.data.toList = (T.data.toList.foldl satStep 0, 2)) ∧ (T.data.toList.all digB = false → cnum s.data.toList = (0, 0))) := Lib.hid ⟨fun h => HC.out.1 h hne, HC.out.2.1⟩
      go_enter Tryz.func165, Tryz.ntmps165
      go_wp2_with (first | (go_at_call 169; refine (zeros_any _ (by rw [ext1_size]; omega) _).mono ?_; rintro e w' ⟨rfl, rfl⟩; rw [ext1, HZ.out]))
      rw [← HT.out, HSZ.out]
      go_loop [5, 31] (fun nv i => ∃ k : Nat, k ≤ T.size ∧ i = .int .i64 k ∧ (∃ n : Nat, nv = .int .i64 n ∧ Hid (n = (T.data.toList.take k).foldl satStep 0)) ∧ Hid (∀ j, (hj : j < T.size) → j < k → digB T[j] = true)) (fun nv i => T.size - (intOf i).toNat)
      case atStart => exact ⟨0, by omega, rfl, ⟨0, rfl, Lib.hid rfl⟩, fun j _ h => absurd h (Nat.not_lt_zero j)⟩
      case round =>
        obtain ⟨k, hk, rfl, ⟨n, rfl, hn⟩, hf⟩ := hrel
        by_cases hlt : k < T.size
        · obtain ⟨x, hx⟩ : ∃ x : Int, x = (T[k].toNat : Int) := ⟨_, rfl⟩
          have HI := idxS T k hlt x hx
          have HX := Lib.hid hx
          clear hx
          have hnl : n ≤ 1099511627776 := by have := fold_take_le T k; rw [← hn.out] at this; exact this
          cases hd : digB T[k] with
          | false =>
            have HN := Lib.hid (all_stop digB T k hlt hd)
            have HD := Lib.hid hd
            clear hd
            go_wp2_with (first | (go_at_call 155; rw [HX.out]; refine (isDigit_any _ _).mono ?_; rintro e w' ⟨rfl, rfl⟩; rw [HD.out]))
            go_ret2
            exact ⟨by rw [HC2.out.2 HN.out]; rfl, rfl⟩
          | true =>
            have HN := Lib.hid (all_next digB T k hlt hd hf.out)
            have hxb : 48 ≤ x ∧ x ≤ 57 := by
              have := hd
              unfold digB at this
              simp only [Bool.and_eq_true, decide_eq_true_eq] at this
              have := HX.out
              omega
            have HD := Lib.hid hd
            clear hd
            have HS : Hid (satStep n T[k] = (T.data.toList.take (k + 1)).foldl satStep 0) := Lib.hid (by rw [fold_next T k hlt, hn.out])
            by_cases hm : 10 * (n : Int) + (x - 48) ≤ 1099511627776
            · have HM : Hid (10 * (n : Int) + (x - 48) = (((T.data.toList.take (k + 1)).foldl satStep 0 : Nat) : Int)) := Lib.hid (by rw [← HS.out]; unfold satStep hugeN; have := HX.out; omega)
              go_wp2_with (first | (go_at_call 155; rw [HX.out]; refine (isDigit_any _ _).mono ?_; rintro e w' ⟨rfl, rfl⟩; rw [HD.out]))
              rw [HM.out]
              go_round
              case rel => first | exact ⟨k + 1, by omega, by go_num, ⟨_, rfl, Lib.hid rfl⟩, HN⟩ | (refine ⟨trivial, _, _, _, _, _, _, _, _, _, _, _, _, _, _, _, _, _, _, _, _, _, _, ?_, rfl⟩; exact ⟨k + 1, by omega, by go_num, ⟨_, rfl, Lib.hid rfl⟩, HN⟩)
              case measure => simp [intOf]; omega
            · have HM : Hid ((1099511627776 : Int) = (((T.data.toList.take (k + 1)).foldl satStep 0 : Nat) : Int)) := Lib.hid (by rw [← HS.out]; unfold satStep hugeN; have := HX.out; omega)
              go_wp2_with (first | (go_at_call 155; rw [HX.out]; refine (isDigit_any _ _).mono ?_; rintro e w' ⟨rfl, rfl⟩; rw [HD.out]))
              go_round
              case rel => first | exact ⟨k + 1, by omega, by go_num, ⟨_, congrArg (Value.int .i64) HM.out, Lib.hid rfl⟩, HN⟩ | (refine ⟨trivial, _, _, _, _, _, _, _, _, _, _, _, _, _, _, _, _, _, _, _, _, _, _, ?_, rfl⟩; exact ⟨k + 1, by omega, by go_num, ⟨_, congrArg (Value.int .i64) HM.out, Lib.hid rfl⟩, HN⟩)
              case measure => simp [intOf]; omega
        · have HN := Lib.hid (all_end digB T (fun j hj => hf.out j hj (by omega)))
          have HF : Hid (n = T.data.toList.foldl satStep 0) := Lib.hid (by rw [hn.out, List.take_of_length_le (by rw [str_len]; omega)])
          go_wp2_with fail
          go_ret2
          exact ⟨by rw [HC2.out.1 HN.out, HF.out]; rfl, rfl⟩
/-- spec.CronNumber. -/
theorem number_any (s : ByteArray) (hs : s.size ≤ 2147483654) (w : World) :
    Calls Tryz.prog 165 #[.string s] w fun e w' => e = .returned (.tuple #[.int .i64 ((cnum s.data.toList).1 : Nat), .int .i64 ((cnum s.data.toList).2 : Nat)]) ∧ w = w' := by
  by_cases h0 : 0 < s.size
  · by_cases hsn : s[0].toNat = 43 ∨ (s[0].toNat = 45 ∧ zerosB (s.data.toList.drop 1) = true)
    · exact number_sign s hs h0 s[0] rfl hsn w
    · exact number_plain s hs h0 s[0] rfl (fun h => hsn (Or.inl h)) (fun h => hsn (Or.inr h)) w
  · have e : s = ⟨#[]⟩ := by
      obtain ⟨⟨l⟩⟩ := s
      have h1 : ¬ 0 < l.length := h0
      have : l = [] := List.length_eq_zero_iff.1 (by omega)
      rw [this]
    rw [e]
    exact number_empty w
end Go.Proofs.YtkhggefbkhdimaaGreatDoor

namespace Go.Proofs.YtkhggefbkhdimaaGreatDoor
open Go.RowKit
set_option linter.unusedVariables false
set_option linter.unusedSimpArgs false

set_option maxHeartbeats 1000000 in
theorem upper_any (c : UInt8) (w : World) :
    Calls Tryz.prog 172 #[.int .u8 c.toNat] w fun e w' => e = .returned (.int .u8 (upN c.toNat : Nat)) ∧ w = w' := by
  have hx : c.toNat < 256 := UInt8.toNat_lt c
  generalize c.toNat = x at hx
  unfold upN
  by_cases h1 : 97 ≤ x
  · have q1 : decide ((97 : Int) ≤ (x : Int)) = true := decide_eq_true (by omega)
    by_cases h2 : x ≤ 122
    · have q2 : decide ((x : Int) ≤ 122) = true := decide_eq_true (by omega)
      have HE : Hid ((x : Int) - 97 + 65 = ((x - 32 : Nat) : Int)) := Lib.hid (by omega)
      rw [if_pos ⟨h1, h2⟩, ← HE.out]
      go_enter Tryz.func172, Tryz.ntmps172
      go_wp2_with fail
      go_ret
      exact ⟨rfl, rfl⟩
    · have q2 : decide ((x : Int) ≤ 122) = false := decide_eq_false (by omega)
      rw [if_neg (by omega)]
      go_enter Tryz.func172, Tryz.ntmps172
      go_wp2_with fail
      go_ret
      exact ⟨rfl, rfl⟩
  · have q1 : decide ((97 : Int) ≤ (x : Int)) = false := decide_eq_false (by omega)
    rw [if_neg (by omega)]
    go_enter Tryz.func172, Tryz.ntmps172
    go_wp2_with fail
    go_ret
    exact ⟨rfl, rfl⟩

/-- Two texts are the same but for small and capital letters. -/
def sameB (a b : ByteArray) : Bool := a.data.toList.map (fun c => upN c.toNat) == b.data.toList.map (fun c => upN c.toNat)
theorem same_len (a b : ByteArray) (h : a.size ≠ b.size) : sameB a b = false := by
  unfold sameB
  rw [beq_eq_false_iff_ne]
  intro e
  have := congrArg List.length e
  rw [List.length_map, List.length_map, str_len, str_len] at this
  exact h this
theorem same_stop (a b : ByteArray) (k : Nat) (ha : k < a.size) (hb : k < b.size) (h : upN a[k].toNat ≠ upN b[k].toNat) : sameB a b = false := by
  unfold sameB
  rw [beq_eq_false_iff_ne]
  intro e
  have h2 := congrArg (fun l => l[k]?) e
  simp only [List.getElem?_map] at h2
  rw [List.getElem?_eq_getElem (by rw [str_len]; exact ha), List.getElem?_eq_getElem (by rw [str_len]; exact hb)] at h2
  simp only [Option.map_some, Option.some.injEq] at h2
  refine h ?_
  rw [str_get, str_get]
  exact h2
theorem same_end (a b : ByteArray) (hl : a.size = b.size) (h : ∀ j, (ha : j < a.size) → (hb : j < b.size) → upN a[j].toNat = upN b[j].toNat) : sameB a b = true := by
  unfold sameB
  rw [beq_iff_eq]
  refine List.ext_getElem (by rw [List.length_map, List.length_map, str_len, str_len]; exact hl) (fun j h1 h2 => ?_)
  have h3 := h j (by rw [List.length_map, str_len] at h1; exact h1) (by rw [List.length_map, str_len] at h2; exact h2)
  rw [str_get, str_get] at h3
  rw [List.getElem_map, List.getElem_map]
  exact h3
end Go.Proofs.YtkhggefbkhdimaaGreatDoor

namespace Go.Proofs.YtkhggefbkhdimaaGreatDoor
open Go.RowKit
set_option linter.unusedVariables false
set_option linter.unusedSimpArgs false

def upI (x : Int) : Int := if 97 ≤ x ∧ x ≤ 122 then x - 32 else x
theorem upI_up (c : UInt8) : upI (c.toNat : Int) = (upN c.toNat : Nat) := by unfold upI upN; split <;> split <;> omega
theorem upper_int (x : Int) (h0 : 0 ≤ x) (h1 : x < 256) (W : World) :
    Calls Tryz.prog 172 #[.int .u8 x] W fun e w' => e = .returned (.int .u8 (upI x)) ∧ w' = W := by
  obtain ⟨c, hc⟩ : ∃ c : UInt8, x = (c.toNat : Int) := ⟨UInt8.ofNat x.toNat, by rw [UInt8.toNat_ofNat', Nat.mod_eq_of_lt (by omega)]; omega⟩
  subst hc
  rw [upI_up]
  exact (upper_any c W).mono (fun _ _ h => ⟨h.1, h.2.symm⟩)
set_option maxRecDepth 100000 in
set_option maxHeartbeats 4000000 in
theorem same_any (a b : ByteArray) (hs : a.size ≤ 2147483654) (w : World) :
    Calls Tryz.prog 168 #[.string a, .string b] w fun e w' => e = .returned (.bool (sameB a b)) ∧ Below w.heap.size w w' := by
  by_cases hl : a.size = b.size
  · have q : ((a.size : Int) != (b.size : Int)) = false := by rw [hl]; simp
    have HL := Lib.hid hl
    clear hl
    go_enter Tryz.func168, Tryz.ntmps168
    go_wp2_with fail
    go_loopw [13] (fun i wr => ∃ k : Nat, k ≤ a.size ∧ i = .int .i64 k ∧ Hid (∀ j, (ha : j < a.size) → (hb : j < b.size) → j < k → upN a[j].toNat = upN b[j].toNat) ∧ Below w.heap.size w wr) (fun i _ => a.size - (intOf i).toNat)
    case atStart => exact ⟨0, by omega, rfl, fun j _ _ h => absurd h (Nat.not_lt_zero j), Below.refl _ _⟩
    case round =>
      obtain ⟨k, hk, rfl, hf, hb⟩ := hrel
      by_cases hlt : k < a.size
      · have hlb : k < b.size := by rw [← HL.out]; exact hlt
        obtain ⟨x, hx⟩ : ∃ x : Int, x = (a[k].toNat : Int) := ⟨_, rfl⟩
        have HI := idxS a k hlt x hx
        obtain ⟨y, hy⟩ : ∃ y : Int, y = (b[k].toNat : Int) := ⟨_, rfl⟩
        have HJ := idxS b k hlb y hy
        have HX := Lib.hid hx
        have HY := Lib.hid hy
        clear hx hy
        have hx0 : 0 ≤ x := by have := HX.out; omega
        have hx1 : x < 256 := by have := HX.out; have := UInt8.toNat_lt a[k]; omega
        have hy0 : 0 ≤ y := by have := HY.out; omega
        have hy1 : y < 256 := by have := HY.out; have := UInt8.toNat_lt b[k]; omega
        have HU : Hid (upI x = (upN a[k].toNat : Nat)) := Lib.hid (by rw [HX.out, upI_up])
        have HV : Hid (upI y = (upN b[k].toNat : Nat)) := Lib.hid (by rw [HY.out, upI_up])
        by_cases hc : upI x = upI y
        · have HN := Lib.hid (fun j (h1 : j < a.size) (h2 : j < b.size) (h3 : j < k + 1) => show upN a[j].toNat = upN b[j].toNat by
            rcases Nat.lt_or_ge j k with c | c
            · exact hf.out j h1 h2 c
            · obtain rfl : j = k := by omega
              have e1 := HU.out; have e2 := HV.out; omega)
          have q2 : (upI x != upI y) = false := by rw [hc]; simp
          clear hc
          go_wp2_with fail
          go_quiet ((go_at_call 172; exact Calls.quiet_of_same (upper_int _ (by omega) (by omega) _)))
          go_wp2_with fail
          go_roundw
          case rel => exact ⟨k + 1, by omega, by go_num, HN, below_drewN hb _⟩
          case measure => simp [intOf]; omega
        · have HN := Lib.hid (same_stop a b k hlt hlb (by have e1 := HU.out; have e2 := HV.out; omega))
          have q2 : (upI x != upI y) = true := by simp only [bne_iff_ne]; exact hc
          clear hc
          go_wp2_with fail
          go_quiet ((go_at_call 172; exact Calls.quiet_of_same (upper_int _ (by omega) (by omega) _)))
          go_wp2_with fail
          go_ret
          exact ⟨ret_bool HN.out.symm, below_drewN hb _⟩
      · have HN := Lib.hid (same_end a b HL.out (fun j h1 h2 => hf.out j h1 h2 (by omega)))
        go_wp2_with fail
        go_ret
        exact ⟨ret_bool HN.out.symm, hb⟩
  · have q : ((a.size : Int) != (b.size : Int)) = true := by simp only [bne_iff_ne]; omega
    have HN := Lib.hid (same_len a b hl)
    clear hl
    go_enter Tryz.func168, Tryz.ntmps168
    go_wp2_with fail
    go_ret
    exact ⟨ret_bool HN.out.symm, Below.refl _ _⟩
end Go.Proofs.YtkhggefbkhdimaaGreatDoor

namespace Go.Proofs.YtkhggefbkhdimaaGreatDoor
open Go.RowKit
set_option linter.unusedVariables false
set_option linter.unusedSimpArgs false

theorem low_at (k : Nat) (hk : k < 6) (w : World) : Calls Tryz.prog 26 #[.int .i64 k] w fun e w' => e = .returned (.int .i64 (loK k : Nat)) ∧ w' = w := by
  rcases k with _ | _ | _ | _ | _ | _ | k
  all_goals first
    | omega
    | (go_enter Tryz.func26, Tryz.ntmps26
       go_wp2_with fail
       go_ret
       exact ⟨rfl, rfl⟩)
theorem high_at (k : Nat) (hk : k < 6) (w : World) : Calls Tryz.prog 53 #[.int .i64 k] w fun e w' => e = .returned (.int .i64 (hiK k : Nat)) ∧ w' = w := by
  rcases k with _ | _ | _ | _ | _ | _ | k
  all_goals first
    | omega
    | (go_enter Tryz.func53, Tryz.ntmps53
       go_wp2_with fail
       go_ret
       exact ⟨rfl, rfl⟩)
def txtM : ByteArray := ⟨#[46, 46, 46, 74, 65, 78, 70, 69, 66, 77, 65, 82, 65, 80, 82, 77, 65, 89, 74, 85, 78, 74, 85, 76, 65, 85, 71, 83, 69, 80, 79, 67, 84, 78, 79, 86, 68, 69, 67]⟩
theorem lowM (w : World) : Calls Tryz.prog 26 #[.int .i64 4] w fun e w' => e = .returned (.int .i64 1) ∧ w' = w := low_at 4 (by decide) w
theorem highM (w : World) : Calls Tryz.prog 53 #[.int .i64 4] w fun e w' => e = .returned (.int .i64 12) ∧ w' = w := high_at 4 (by decide) w
set_option maxRecDepth 100000 in
set_option maxHeartbeats 2000000 in
theorem nameM (v : Nat) (h1 : 1 ≤ v) (h2 : v ≤ 12) (w : World) :
    Calls Tryz.prog 143 #[.int .i64 4, .int .i64 v] w fun e w' => e = .returned (.string (txtM.extract (3 * v) (3 * v + 3))) ∧ Below w.heap.size w w' := by
  have q1 : decide ((v : Int) < 1) = false := decide_eq_false (by omega)
  have q2 : decide ((12 : Int) < (v : Int)) = false := decide_eq_false (by omega)
  go_enter Tryz.func143, Tryz.ntmps143
  go_wp2_with (first | (go_at_call 26; refine (lowM _).mono ?_; rintro e w' ⟨rfl, rfl⟩) | (go_at_call 53; refine (highM _).mono ?_; rintro e w' ⟨rfl, rfl⟩))
  go_ret
  exact ⟨rfl, Below.refl _ _⟩
def txtD : ByteArray := ⟨#[83, 85, 78, 77, 79, 78, 84, 85, 69, 87, 69, 68, 84, 72, 85, 70, 82, 73, 83, 65, 84]⟩
theorem lowD (w : World) : Calls Tryz.prog 26 #[.int .i64 5] w fun e w' => e = .returned (.int .i64 0) ∧ w' = w := low_at 5 (by decide) w
theorem highD (w : World) : Calls Tryz.prog 53 #[.int .i64 5] w fun e w' => e = .returned (.int .i64 6) ∧ w' = w := high_at 5 (by decide) w
set_option maxRecDepth 100000 in
set_option maxHeartbeats 2000000 in
theorem nameD (v : Nat) (h1 : 0 ≤ v) (h2 : v ≤ 6) (w : World) :
    Calls Tryz.prog 143 #[.int .i64 5, .int .i64 v] w fun e w' => e = .returned (.string (txtD.extract (3 * v) (3 * v + 3))) ∧ Below w.heap.size w w' := by
  have q1 : decide ((v : Int) < 0) = false := decide_eq_false (by omega)
  have q2 : decide ((6 : Int) < (v : Int)) = false := decide_eq_false (by omega)
  go_enter Tryz.func143, Tryz.ntmps143
  go_wp2_with (first | (go_at_call 26; refine (lowD _).mono ?_; rintro e w' ⟨rfl, rfl⟩) | (go_at_call 53; refine (highD _).mono ?_; rintro e w' ⟨rfl, rfl⟩))
  go_ret
  exact ⟨rfl, Below.refl _ _⟩
end Go.Proofs.YtkhggefbkhdimaaGreatDoor
