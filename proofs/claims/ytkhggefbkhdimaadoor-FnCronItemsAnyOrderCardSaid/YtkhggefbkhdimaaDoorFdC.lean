/- spec.CronNumber with a sign, of the empty text, of any text. -/
import Derived.Test.YtkhggefbkhdimaaDoorFdB
namespace Go.Proofs.YtkhggefbkhdimaaDoor
open Go.RowKit
set_option linter.unusedVariables false
set_option linter.unusedSimpArgs false

set_option maxHeartbeats 1000000 in
theorem number_empty (w : World) :
    Calls Tryd.prog 37 #[.string ⟨#[]⟩] w fun e w' => e = .returned (.tuple #[.int .i64 ((cnum []).1 : Nat), .int .i64 ((cnum []).2 : Nat)]) ∧ w = w' := by
  go_enter Tryd.func37, Tryd.ntmps37
  go_wp2_with fail
  go_ret2
  exact ⟨rfl, rfl⟩
set_option maxHeartbeats 4000000 in
theorem number_sign (s : ByteArray) (hs : s.size ≤ 2147483654) (h0 : 0 < s.size) (c : UInt8) (hc : s[0] = c) (hsn : c.toNat = 43 ∨ (c.toNat = 45 ∧ zerosB (s.data.toList.drop 1) = true)) (w : World) :
    Calls Tryd.prog 37 #[.string s] w fun e w' => e = .returned (.tuple #[.int .i64 ((cnum s.data.toList).1 : Nat), .int .i64 ((cnum s.data.toList).2 : Nat)]) ∧ w = w' := by
  obtain ⟨r, hcons, hdrop⟩ : ∃ r, s.data.toList = c :: r ∧ s.data.toList.drop 1 = r := by
    have hl : 0 < s.data.toList.length := by rw [str_len]; exact h0
    have h3 := List.drop_eq_getElem_cons (l := s.data.toList) (i := 0) hl
    have e : s.data.toList[0] = c := by rw [← hc, str_get]
    rw [List.drop_zero, e] at h3
    exact ⟨_, h3, rfl⟩
  obtain ⟨T, hT⟩ : ∃ T, T = s.extract 1 s.size := ⟨_, rfl⟩
  have hTl : T.data.toList = r := by rw [hT, ext1, hdrop]
  have hTs : T.size ≤ 2147483654 := by rw [hT, ext1_size]; omega
  rw [hdrop] at hsn
  have HC : Hid ((T.data.toList.all digB = true → T.data.toList ≠ [] → cnum s.data.toList = (T.data.toList.foldl satStep 0, 2)) ∧ (T.data.toList.all digB = false → cnum s.data.toList = (0, 0)) ∧ (T.data.toList = [] → cnum s.data.toList = (0, 0))) := by
    have e : cnum s.data.toList = if r = [] then (0, 0) else if r.all digB = true then (r.foldl satStep 0, 2) else (0, 0) := by
      rw [hcons]
      unfold cnum
      rw [signL_cons, if_pos hsn]
    rw [hTl]
    refine Lib.hid ⟨fun h h2 => by rw [e, if_neg h2, if_pos h], fun h => ?_, fun h => by rw [e, if_pos h]⟩
    rw [e]
    split
    · rfl
    · rw [if_neg (by rw [h]; decide)]
  have HT := Lib.hid hT
  have HTL := Lib.hid hTl
  have HSZ : Hid (s.size - 1 = T.size) := Lib.hid (by rw [HT.out, ext1_size])
  have q0 : decide ((0 : Int) < (s.size : Int)) = true := decide_eq_true (by omega)
  by_cases c43 : (c.toNat : Int) = 43
  · have q1b : ((c.toNat : Int) == 43) = true := by simp [c43]
    clear hsn hT hTl hcons
    cases he : (s.extract 1 s.size).toList.isEmpty with
    | true =>
      have HN : Hid (T.data.toList = []) := Lib.hid (by rw [HT.out, ← ByteArray.toList_eq]; simpa using he)
      go_enter Tryd.func37, Tryd.ntmps37
      go_wp2_with fail
      go_ret2
      exact ⟨by rw [HC.out.2.2 HN.out]; rfl, rfl⟩
    | false =>
      have hne : T.data.toList ≠ [] := by
        rw [HT.out, ← ByteArray.toList_eq]
        intro h
        rw [h] at he
        cases he
      have HC2 : Hid ((T.data.toList.all digB = true → cnum s.data.toList = (T.data.toList.foldl satStep 0, 2)) ∧ (T.data.toList.all digB = false → cnum s.data.toList = (0, 0))) := Lib.hid ⟨fun h => HC.out.1 h hne, HC.out.2.1⟩
      go_enter Tryd.func37, Tryd.ntmps37
      go_wp2_with fail
      rw [← HT.out, HSZ.out]
      go_loop [5, 31] (fun nv i => ∃ k : Nat, k ≤ T.size ∧ i = .int .i64 k ∧ (∃ n : Nat, nv = .int .i64 n ∧ Hid (n = (T.data.toList.take k).foldl satStep 0)) ∧ Hid (∀ j, (hj : j < T.size) → j < k → digB T[j] = true)) (fun nv i => T.size - (intOf i).toNat)
      case atStart => exact ⟨0, by omega, rfl, ⟨0, rfl, Lib.hid rfl⟩, fun j _ h => absurd h (Nat.not_lt_zero j)⟩
      case round =>
        obtain ⟨k, hk, rfl, ⟨n, rfl, hn⟩, hf⟩ := hrel
        by_cases hlt : k < T.size
        · obtain ⟨x, hx⟩ : ∃ x : Int, x = (T[k].toNat : Int) := ⟨_, rfl⟩
          have HI := idxS T k hlt x hx
          have HX := Lib.hid hx
          clear hx
          have hnl : n ≤ 1099511627776 := by have := fold_take_le T k; rw [← hn.out] at this; exact this
          cases hd : digB T[k] with
          | false =>
            have HN := Lib.hid (all_stop digB T k hlt hd)
            have HD := Lib.hid hd
            clear hd
            go_wp2_with (first | (go_at_call 65; rw [HX.out]; refine (isDigit_any _ _).mono ?_; rintro e w' ⟨rfl, rfl⟩; rw [HD.out]))
            go_ret2
            exact ⟨by rw [HC2.out.2 HN.out]; rfl, rfl⟩
          | true =>
            have HN := Lib.hid (all_next digB T k hlt hd hf.out)
            have hxb : 48 ≤ x ∧ x ≤ 57 := by
              have := hd
              unfold digB at this
              simp only [Bool.and_eq_true, decide_eq_true_eq] at this
              have := HX.out
              omega
            have HD := Lib.hid hd
            clear hd
            have HS : Hid (satStep n T[k] = (T.data.toList.take (k + 1)).foldl satStep 0) := Lib.hid (by rw [fold_next T k hlt, hn.out])
            by_cases hm : 10 * (n : Int) + (x - 48) ≤ 1099511627776
            · have HM : Hid (10 * (n : Int) + (x - 48) = (((T.data.toList.take (k + 1)).foldl satStep 0 : Nat) : Int)) := Lib.hid (by rw [← HS.out]; unfold satStep hugeN; have := HX.out; omega)
              go_wp2_with (first | (go_at_call 65; rw [HX.out]; refine (isDigit_any _ _).mono ?_; rintro e w' ⟨rfl, rfl⟩; rw [HD.out]))
              rw [HM.out]
              go_round
              case rel => first | exact ⟨k + 1, by omega, by go_num, ⟨_, rfl, Lib.hid rfl⟩, HN⟩ | (refine ⟨trivial, _, _, _, _, _, _, _, _, _, _, _, _, _, _, _, _, _, _, _, _, _, _, ?_, rfl⟩; exact ⟨k + 1, by omega, by go_num, ⟨_, rfl, Lib.hid rfl⟩, HN⟩)
              case measure => simp [intOf]; omega
            · have HM : Hid ((1099511627776 : Int) = (((T.data.toList.take (k + 1)).foldl satStep 0 : Nat) : Int)) := Lib.hid (by rw [← HS.out]; unfold satStep hugeN; have := HX.out; omega)
              go_wp2_with (first | (go_at_call 65; rw [HX.out]; refine (isDigit_any _ _).mono ?_; rintro e w' ⟨rfl, rfl⟩; rw [HD.out]))
              go_round
              case rel => first | exact ⟨k + 1, by omega, by go_num, ⟨_, congrArg (Value.int .i64) HM.out, Lib.hid rfl⟩, HN⟩ | (refine ⟨trivial, _, _, _, _, _, _, _, _, _, _, _, _, _, _, _, _, _, _, _, _, _, _, ?_, rfl⟩; exact ⟨k + 1, by omega, by go_num, ⟨_, congrArg (Value.int .i64) HM.out, Lib.hid rfl⟩, HN⟩)
              case measure => simp [intOf]; omega
        · have HN := Lib.hid (all_end digB T (fun j hj => hf.out j hj (by omega)))
          have HF : Hid (n = T.data.toList.foldl satStep 0) := Lib.hid (by rw [hn.out, List.take_of_length_le (by rw [str_len]; omega)])
          go_wp2_with fail
          go_ret2
          exact ⟨by rw [HC2.out.1 HN.out, HF.out]; rfl, rfl⟩
  · have q1b : ((c.toNat : Int) == 43) = false := by simp only [beq_eq_false_iff_ne]; exact c43
    have h45 : c.toNat = 45 ∧ zerosB r = true := hsn.resolve_left (by omega)
    have q2 : (c.toNat : Int) = 45 := by omega
    have q2b : ((c.toNat : Int) == 45) = true := by simp [q2]
    have HZ : Hid (zerosB (s.data.toList.drop 1) = true) := Lib.hid (by rw [hdrop]; exact h45.2)
    clear hsn hT hTl hcons h45
    cases he : (s.extract 1 s.size).toList.isEmpty with
    | true =>
      have HN : Hid (T.data.toList = []) := Lib.hid (by rw [HT.out, ← ByteArray.toList_eq]; simpa using he)
      go_enter Tryd.func37, Tryd.ntmps37
      go_wp2_with (first | (go_at_call 64; refine (zeros_any _ (by rw [ext1_size]; omega) _).mono ?_; rintro e w' ⟨rfl, rfl⟩; rw [ext1, HZ.out]))
      go_ret2
      exact ⟨by rw [HC.out.2.2 HN.out]; rfl, rfl⟩
    | false =>
      have hne : T.data.toList ≠ [] := by
        rw [HT.out, ← ByteArray.toList_eq]
        intro h
        rw [h] at he
        cases he
      have HC2 : Hid ((T.data.toList.all digB = true → cnum s.data.toList = (T.data.toList.foldl satStep 0, 2)) ∧ (T.data.toList.all digB = false → cnum s.data.toList = (0, 0))) := Lib.hid ⟨fun h => HC.out.1 h hne, HC.out.2.1⟩
      go_enter Tryd.func37, Tryd.ntmps37
      go_wp2_with (first | (go_at_call 64; refine (zeros_any _ (by rw [ext1_size]; omega) _).mono ?_; rintro e w' ⟨rfl, rfl⟩; rw [ext1, HZ.out]))
      rw [← HT.out, HSZ.out]
      go_loop [5, 31] (fun nv i => ∃ k : Nat, k ≤ T.size ∧ i = .int .i64 k ∧ (∃ n : Nat, nv = .int .i64 n ∧ Hid (n = (T.data.toList.take k).foldl satStep 0)) ∧ Hid (∀ j, (hj : j < T.size) → j < k → digB T[j] = true)) (fun nv i => T.size - (intOf i).toNat)
      case atStart => exact ⟨0, by omega, rfl, ⟨0, rfl, Lib.hid rfl⟩, fun j _ h => absurd h (Nat.not_lt_zero j)⟩
      case round =>
        obtain ⟨k, hk, rfl, ⟨n, rfl, hn⟩, hf⟩ := hrel
        by_cases hlt : k < T.size
        · obtain ⟨x, hx⟩ : ∃ x : Int, x = (T[k].toNat : Int) := ⟨_, rfl⟩
          have HI := idxS T k hlt x hx
          have HX := Lib.hid hx
          clear hx
          have hnl : n ≤ 1099511627776 := by have := fold_take_le T k; rw [← hn.out] at this; exact this
          cases hd : digB T[k] with
          | false =>
            have HN := Lib.hid (all_stop digB T k hlt hd)
            have HD := Lib.hid hd
            clear hd
            go_wp2_with (first | (go_at_call 65; rw [HX.out]; refine (isDigit_any _ _).mono ?_; rintro e w' ⟨rfl, rfl⟩; rw [HD.out]))
            go_ret2
            exact ⟨by rw [HC2.out.2 HN.out]; rfl, rfl⟩
          | true =>
            have HN := Lib.hid (all_next digB T k hlt hd hf.out)
            have hxb : 48 ≤ x ∧ x ≤ 57 := by
              have := hd
              unfold digB at this
              simp only [Bool.and_eq_true, decide_eq_true_eq] at this
              have := HX.out
              omega
            have HD := Lib.hid hd
            clear hd
            have HS : Hid (satStep n T[k] = (T.data.toList.take (k + 1)).foldl satStep 0) := Lib.hid (by rw [fold_next T k hlt, hn.out])
            by_cases hm : 10 * (n : Int) + (x - 48) ≤ 1099511627776
            · have HM : Hid (10 * (n : Int) + (x - 48) = (((T.data.toList.take (k + 1)).foldl satStep 0 : Nat) : Int)) := Lib.hid (by rw [← HS.out]; unfold satStep hugeN; have := HX.out; omega)
              go_wp2_with (first | (go_at_call 65; rw [HX.out]; refine (isDigit_any _ _).mono ?_; rintro e w' ⟨rfl, rfl⟩; rw [HD.out]))
              rw [HM.out]
              go_round
              case rel => first | exact ⟨k + 1, by omega, by go_num, ⟨_, rfl, Lib.hid rfl⟩, HN⟩ | (refine ⟨trivial, _, _, _, _, _, _, _, _, _, _, _, _, _, _, _, _, _, _, _, _, _, _, ?_, rfl⟩; exact ⟨k + 1, by omega, by go_num, ⟨_, rfl, Lib.hid rfl⟩, HN⟩)
              case measure => simp [intOf]; omega
            · have HM : Hid ((1099511627776 : Int) = (((T.data.toList.take (k + 1)).foldl satStep 0 : Nat) : Int)) := Lib.hid (by rw [← HS.out]; unfold satStep hugeN; have := HX.out; omega)
              go_wp2_with (first | (go_at_call 65; rw [HX.out]; refine (isDigit_any _ _).mono ?_; rintro e w' ⟨rfl, rfl⟩; rw [HD.out]))
              go_round
              case rel => first | exact ⟨k + 1, by omega, by go_num, ⟨_, congrArg (Value.int .i64) HM.out, Lib.hid rfl⟩, HN⟩ | (refine ⟨trivial, _, _, _, _, _, _, _, _, _, _, _, _, _, _, _, _, _, _, _, _, _, _, ?_, rfl⟩; exact ⟨k + 1, by omega, by go_num, ⟨_, congrArg (Value.int .i64) HM.out, Lib.hid rfl⟩, HN⟩)
              case measure => simp [intOf]; omega
        · have HN := Lib.hid (all_end digB T (fun j hj => hf.out j hj (by omega)))
          have HF : Hid (n = T.data.toList.foldl satStep 0) := Lib.hid (by rw [hn.out, List.take_of_length_le (by rw [str_len]; omega)])
          go_wp2_with fail
          go_ret2
          exact ⟨by rw [HC2.out.1 HN.out, HF.out]; rfl, rfl⟩
/-- spec.CronNumber. -/
theorem number_any (s : ByteArray) (hs : s.size ≤ 2147483654) (w : World) :
    Calls Tryd.prog 37 #[.string s] w fun e w' => e = .returned (.tuple #[.int .i64 ((cnum s.data.toList).1 : Nat), .int .i64 ((cnum s.data.toList).2 : Nat)]) ∧ w = w' := by
  by_cases h0 : 0 < s.size
  · by_cases hsn : s[0].toNat = 43 ∨ (s[0].toNat = 45 ∧ zerosB (s.data.toList.drop 1) = true)
    · exact number_sign s hs h0 s[0] rfl hsn w
    · exact number_plain s hs h0 s[0] rfl (fun h => hsn (Or.inl h)) (fun h => hsn (Or.inr h)) w
  · have e : s = ⟨#[]⟩ := by
      obtain ⟨⟨l⟩⟩ := s
      have h1 : ¬ 0 < l.length := h0
      have : l = [] := List.length_eq_zero_iff.1 (by omega)
      rw [this]
    rw [e]
    exact number_empty w
end Go.Proofs.YtkhggefbkhdimaaDoor
