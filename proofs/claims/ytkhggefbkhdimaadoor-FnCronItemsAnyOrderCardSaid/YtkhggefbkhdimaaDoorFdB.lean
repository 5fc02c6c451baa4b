/- spec.cronForeign, spec.CronNumber. -/
import Derived.Test.YtkhggefbkhdimaaDoorFdA
namespace Go.Proofs.YtkhggefbkhdimaaDoor
open Go.RowKit
set_option linter.unusedVariables false
set_option linter.unusedSimpArgs false

set_option maxHeartbeats 2000000 in
theorem foreign_any (s : ByteArray) (hs : s.size ≤ 2147483654) (w : World) :
    Calls Tryd.prog 63 #[.string s] w fun e w' => e = .returned (.bool (!asciiB s.data.toList)) ∧ w = w' := by
  go_enter Tryd.func63, Tryd.ntmps63
  go_wp2_with fail
  go_loop [6] (fun i => ∃ k : Nat, k ≤ s.size ∧ i = .int .i64 k ∧ Hid (∀ j, (hj : j < s.size) → j < k → (fun c : UInt8 => decide (c.toNat < 128)) s[j] = true)) (fun i => s.size - (intOf i).toNat)
  case atStart => exact ⟨0, by omega, rfl, fun j _ h => absurd h (Nat.not_lt_zero j)⟩
  case round =>
    obtain ⟨k, hk, rfl, hf⟩ := hrel
    by_cases hlt : k < s.size
    · obtain ⟨x, hx⟩ : ∃ x : Int, x = (s[k].toNat : Int) := ⟨_, rfl⟩
      have HI := idxS s k hlt x hx
      by_cases hd : x < 128
      · have HN := Lib.hid (all_next (fun c : UInt8 => decide (c.toNat < 128)) s k hlt (decide_eq_true (by omega)) hf.out)
        have q : decide ((128 : Int) ≤ x) = false := decide_eq_false (by omega)
        clear hx
        go_wp2_with fail
        go_round
        case rel => exact ⟨k + 1, by omega, by go_num, HN⟩
        case measure => simp [intOf]; omega
      · have HN := Lib.hid (all_stop (fun c : UInt8 => decide (c.toNat < 128)) s k hlt (decide_eq_false (by omega)))
        have q : decide ((128 : Int) ≤ x) = true := decide_eq_true (by omega)
        clear hx
        go_wp2_with fail
        go_ret
        exact ⟨ret_bool (by unfold asciiB; rw [HN.out]; rfl), rfl⟩
    · have HN := Lib.hid (all_end (fun c : UInt8 => decide (c.toNat < 128)) s (fun j hj => hf.out j hj (by omega)))
      go_wp2_with fail
      go_ret
      exact ⟨ret_bool (by unfold asciiB; rw [HN.out]; rfl), rfl⟩

theorem fold_next (s : ByteArray) (k : Nat) (hk : k < s.size) : (s.data.toList.take (k + 1)).foldl satStep 0 = satStep ((s.data.toList.take k).foldl satStep 0) s[k] := by
  have hk' : k < s.data.toList.length := by rw [str_len]; exact hk
  rw [List.take_add_one, List.getElem?_eq_getElem hk', Option.toList_some, List.foldl_append, str_get]
  rfl
theorem ext1 (s : ByteArray) : (s.extract 1 s.size).data.toList = s.data.toList.drop 1 := by
  rw [Lib.extract_data, List.take_of_length_le (by rw [List.length_drop, str_len]; exact Nat.le_refl _)]
theorem ext1_size (s : ByteArray) : (s.extract 1 s.size).size = s.size - 1 := by simp
theorem fold_take_le (s : ByteArray) (k : Nat) : (s.data.toList.take k).foldl satStep 0 ≤ hugeN := fold_le _ _ (Nat.zero_le _)

set_option maxHeartbeats 4000000 in
theorem number_plain (s : ByteArray) (hs : s.size ≤ 2147483654) (h0 : 0 < s.size) (c : UInt8) (hc : s[0] = c) (h1 : c.toNat ≠ 43) (h2 : ¬(c.toNat = 45 ∧ zerosB (s.data.toList.drop 1) = true)) (w : World) :
    Calls Tryd.prog 37 #[.string s] w fun e w' => e = .returned (.tuple #[.int .i64 ((cnum s.data.toList).1 : Nat), .int .i64 ((cnum s.data.toList).2 : Nat)]) ∧ w = w' := by
  obtain ⟨r, hcons, hdrop⟩ : ∃ r, s.data.toList = c :: r ∧ s.data.toList.drop 1 = r := by
    have hl : 0 < s.data.toList.length := by rw [str_len]; exact h0
    have h3 := List.drop_eq_getElem_cons (l := s.data.toList) (i := 0) hl
    have e : s.data.toList[0] = c := by rw [← hc, str_get]
    rw [List.drop_zero, e] at h3
    exact ⟨_, h3, rfl⟩
  have hsg : ¬(c.toNat = 43 ∨ (c.toNat = 45 ∧ zerosB r = true)) := by
    rw [hdrop] at h2
    rintro (h | h)
    · exact h1 h
    · exact h2 h
  have HC : Hid ((s.data.toList.all digB = true → cnum s.data.toList = (s.data.toList.foldl satStep 0, 1)) ∧ (s.data.toList.all digB = false → cnum s.data.toList = (0, 0))) := by
    have e : cnum s.data.toList = if s.data.toList.all digB = true then (s.data.toList.foldl satStep 0, 1) else (0, 0) := by
      rw [hcons]
      unfold cnum
      rw [signL_cons, if_neg hsg]
      dsimp only
      rw [if_neg (by simp)]
    exact Lib.hid ⟨fun h => by rw [e, if_pos h], fun h => by rw [e, if_neg (by rw [h]; decide)]⟩
  have q1 : ¬ (c.toNat : Int) = 43 := by omega
  have q1b : ((c.toNat : Int) == 43) = false := by simp only [beq_eq_false_iff_ne]; exact q1
  have q0 : decide ((0 : Int) < (s.size : Int)) = true := decide_eq_true (by omega)
  have hne : s.toList.isEmpty = false := by
    have e : s.toList = s.data.toList := ByteArray.toList_eq _
    rw [e, hcons]; rfl
  clear hsg hcons
  by_cases h45 : (c.toNat : Int) = 45
  · have hz : zerosB (s.data.toList.drop 1) = false := by
      cases hz : zerosB (s.data.toList.drop 1) with
      | true => exact absurd ⟨by omega, hz⟩ h2
      | false => rfl
    have HZ := Lib.hid hz
    clear hz
    go_enter Tryd.func37, Tryd.ntmps37
    go_wp2_with (first | (go_at_call 64; refine (zeros_any _ (by rw [ext1_size]; omega) _).mono ?_; rintro e w' ⟨rfl, rfl⟩; rw [ext1, HZ.out]))
    go_loop [5, 31] (fun nv i => ∃ k : Nat, k ≤ s.size ∧ i = .int .i64 k ∧ (∃ n : Nat, nv = .int .i64 n ∧ Hid (n = (s.data.toList.take k).foldl satStep 0)) ∧ Hid (∀ j, (hj : j < s.size) → j < k → digB s[j] = true)) (fun nv i => s.size - (intOf i).toNat)
    case atStart => exact ⟨0, by omega, rfl, ⟨0, rfl, Lib.hid rfl⟩, fun j _ h => absurd h (Nat.not_lt_zero j)⟩
    case round =>
      obtain ⟨k, hk, rfl, ⟨n, rfl, hn⟩, hf⟩ := hrel
      by_cases hlt : k < s.size
      · obtain ⟨x, hx⟩ : ∃ x : Int, x = (s[k].toNat : Int) := ⟨_, rfl⟩
        have HI := idxS s k hlt x hx
        have HX := Lib.hid hx
        clear hx
        have hnl : n ≤ 1099511627776 := by have := fold_take_le s k; rw [← hn.out] at this; exact this
        cases hd : digB s[k] with
        | false =>
          have HN := Lib.hid (all_stop digB s k hlt hd)
          have HD := Lib.hid hd
          clear hd
          go_wp2_with (first | (go_at_call 65; rw [HX.out]; refine (isDigit_any _ _).mono ?_; rintro e w' ⟨rfl, rfl⟩; rw [HD.out]))
          go_ret2
          exact ⟨by rw [HC.out.2 HN.out]; rfl, rfl⟩
        | true =>
          have HN := Lib.hid (all_next digB s k hlt hd hf.out)
          have hxb : 48 ≤ x ∧ x ≤ 57 := by
            have := hd
            unfold digB at this
            simp only [Bool.and_eq_true, decide_eq_true_eq] at this
            have := HX.out
            omega
          have HD := Lib.hid hd
          clear hd
          have HS : Hid (satStep n s[k] = (s.data.toList.take (k + 1)).foldl satStep 0) := Lib.hid (by rw [fold_next s k hlt, hn.out])
          by_cases hm : 10 * (n : Int) + (x - 48) ≤ 1099511627776
          · have HM : Hid (10 * (n : Int) + (x - 48) = (((s.data.toList.take (k + 1)).foldl satStep 0 : Nat) : Int)) := Lib.hid (by rw [← HS.out]; unfold satStep hugeN; have := HX.out; omega)
            go_wp2_with (first | (go_at_call 65; rw [HX.out]; refine (isDigit_any _ _).mono ?_; rintro e w' ⟨rfl, rfl⟩; rw [HD.out]))
            rw [HM.out]
            go_round
            case rel => first | exact ⟨k + 1, by omega, by go_num, ⟨_, rfl, Lib.hid rfl⟩, HN⟩ | (refine ⟨trivial, _, _, _, _, _, _, _, _, _, _, _, _, _, _, _, _, _, _, _, _, _, _, ?_, rfl⟩; exact ⟨k + 1, by omega, by go_num, ⟨_, rfl, Lib.hid rfl⟩, HN⟩)
            case measure => simp [intOf]; omega
          · have HM : Hid ((1099511627776 : Int) = (((s.data.toList.take (k + 1)).foldl satStep 0 : Nat) : Int)) := Lib.hid (by rw [← HS.out]; unfold satStep hugeN; have := HX.out; omega)
            go_wp2_with (first | (go_at_call 65; rw [HX.out]; refine (isDigit_any _ _).mono ?_; rintro e w' ⟨rfl, rfl⟩; rw [HD.out]))
            go_round
            case rel => first | exact ⟨k + 1, by omega, by go_num, ⟨_, congrArg (Value.int .i64) HM.out, Lib.hid rfl⟩, HN⟩ | (refine ⟨trivial, _, _, _, _, _, _, _, _, _, _, _, _, _, _, _, _, _, _, _, _, _, _, ?_, rfl⟩; exact ⟨k + 1, by omega, by go_num, ⟨_, congrArg (Value.int .i64) HM.out, Lib.hid rfl⟩, HN⟩)
            case measure => simp [intOf]; omega
      · have HN := Lib.hid (all_end digB s (fun j hj => hf.out j hj (by omega)))
        have HF : Hid (n = s.data.toList.foldl satStep 0) := Lib.hid (by rw [hn.out, List.take_of_length_le (by rw [str_len]; omega)])
        go_wp2_with fail
        go_ret2
        exact ⟨by rw [HC.out.1 HN.out, HF.out]; rfl, rfl⟩
  · have q2b : ((c.toNat : Int) == 45) = false := by simp only [beq_eq_false_iff_ne]; exact h45
    go_enter Tryd.func37, Tryd.ntmps37
    go_wp2_with fail
    go_loop [5, 31] (fun nv i => ∃ k : Nat, k ≤ s.size ∧ i = .int .i64 k ∧ (∃ n : Nat, nv = .int .i64 n ∧ Hid (n = (s.data.toList.take k).foldl satStep 0)) ∧ Hid (∀ j, (hj : j < s.size) → j < k → digB s[j] = true)) (fun nv i => s.size - (intOf i).toNat)
    case atStart => exact ⟨0, by omega, rfl, ⟨0, rfl, Lib.hid rfl⟩, fun j _ h => absurd h (Nat.not_lt_zero j)⟩
    case round =>
      obtain ⟨k, hk, rfl, ⟨n, rfl, hn⟩, hf⟩ := hrel
      by_cases hlt : k < s.size
      · obtain ⟨x, hx⟩ : ∃ x : Int, x = (s[k].toNat : Int) := ⟨_, rfl⟩
        have HI := idxS s k hlt x hx
        have HX := Lib.hid hx
        clear hx
        have hnl : n ≤ 1099511627776 := by have := fold_take_le s k; rw [← hn.out] at this; exact this
        cases hd : digB s[k] with
        | false =>
          have HN := Lib.hid (all_stop digB s k hlt hd)
          have HD := Lib.hid hd
          clear hd
          go_wp2_with (first | (go_at_call 65; rw [HX.out]; refine (isDigit_any _ _).mono ?_; rintro e w' ⟨rfl, rfl⟩; rw [HD.out]))
          go_ret2
          exact ⟨by rw [HC.out.2 HN.out]; rfl, rfl⟩
        | true =>
          have HN := Lib.hid (all_next digB s k hlt hd hf.out)
          have hxb : 48 ≤ x ∧ x ≤ 57 := by
            have := hd
            unfold digB at this
            simp only [Bool.and_eq_true, decide_eq_true_eq] at this
            have := HX.out
            omega
          have HD := Lib.hid hd
          clear hd
          have HS : Hid (satStep n s[k] = (s.data.toList.take (k + 1)).foldl satStep 0) := Lib.hid (by rw [fold_next s k hlt, hn.out])
          by_cases hm : 10 * (n : Int) + (x - 48) ≤ 1099511627776
          · have HM : Hid (10 * (n : Int) + (x - 48) = (((s.data.toList.take (k + 1)).foldl satStep 0 : Nat) : Int)) := Lib.hid (by rw [← HS.out]; unfold satStep hugeN; have := HX.out; omega)
            go_wp2_with (first | (go_at_call 65; rw [HX.out]; refine (isDigit_any _ _).mono ?_; rintro e w' ⟨rfl, rfl⟩; rw [HD.out]))
            rw [HM.out]
            go_round
            case rel => first | exact ⟨k + 1, by omega, by go_num, ⟨_, rfl, Lib.hid rfl⟩, HN⟩ | (refine ⟨trivial, _, _, _, _, _, _, _, _, _, _, _, _, _, _, _, _, _, _, _, _, _, _, ?_, rfl⟩; exact ⟨k + 1, by omega, by go_num, ⟨_, rfl, Lib.hid rfl⟩, HN⟩)
            case measure => simp [intOf]; omega
          · have HM : Hid ((1099511627776 : Int) = (((s.data.toList.take (k + 1)).foldl satStep 0 : Nat) : Int)) := Lib.hid (by rw [← HS.out]; unfold satStep hugeN; have := HX.out; omega)
            go_wp2_with (first | (go_at_call 65; rw [HX.out]; refine (isDigit_any _ _).mono ?_; rintro e w' ⟨rfl, rfl⟩; rw [HD.out]))
            go_round
            case rel => first | exact ⟨k + 1, by omega, by go_num, ⟨_, congrArg (Value.int .i64) HM.out, Lib.hid rfl⟩, HN⟩ | (refine ⟨trivial, _, _, _, _, _, _, _, _, _, _, _, _, _, _, _, _, _, _, _, _, _, _, ?_, rfl⟩; exact ⟨k + 1, by omega, by go_num, ⟨_, congrArg (Value.int .i64) HM.out, Lib.hid rfl⟩, HN⟩)
            case measure => simp [intOf]; omega
      · have HN := Lib.hid (all_end digB s (fun j hj => hf.out j hj (by omega)))
        have HF : Hid (n = s.data.toList.foldl satStep 0) := Lib.hid (by rw [hn.out, List.take_of_length_le (by rw [str_len]; omega)])
        go_wp2_with fail
        go_ret2
        exact ⟨by rw [HC.out.1 HN.out, HF.out]; rfl, rfl⟩
end Go.Proofs.YtkhggefbkhdimaaDoor
