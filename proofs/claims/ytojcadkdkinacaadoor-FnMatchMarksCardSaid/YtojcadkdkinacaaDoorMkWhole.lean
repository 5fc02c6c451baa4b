/- laws.FnMatchMarks returns true for every input. -/
import Derived.Test.YtojcadkdkinacaaDoorMkLaw
import Derived.Test.YtojcadkdkinacaaDoorLaidErr
namespace Go.Proofs.YtojcadkdkinacaaDoor
open Go.RowKit
set_option linter.unusedVariables false
set_option linter.unusedSimpArgs false

theorem run_cat (x y : ByteArray) (h : x.size + y.size ≤ 9223372036854775807) (W : World) : (Op.stringOp .add x y).run Tryd.prog W = .ok (.string (x ++ y)) W := by
  unfold Op.stringOp
  have e : ¬ ((x.size + y.size : Nat) : Int) > IntKind.i64.max := by
    show ¬ ((x.size + y.size : Nat) : Int) > 9223372036854775807
    omega
  simp only [if_neg e]
  rfl
theorem allQ_more {T : ByteArray} (h : AllQ T) : AllQ (T ++ ⟨#[63]⟩) := by
  intro c hc
  rw [data_app] at hc
  rcases List.mem_append.1 hc with h1 | h1
  · exact h c h1
  · have : c = 63 := by simpa using h1
    subst this; rfl

theorem match_marks (T S : ByteArray) (n : Nat) (hn : n ≤ 100) (hT : T.size = n) (hq : AllQ T) (h1 : S.size ≤ 200) (h2 : S.toList.isEmpty = false) (hp : plainB S.data.toList = true) : MatchIs T S (marksB n S) := by
  intro W
  have hS1 : 1 ≤ S.size := by
    rcases Nat.eq_zero_or_pos S.size with h | h
    · have := str_len S
      rw [h] at this
      have e := List.eq_nil_of_length_eq_zero this
      rw [ByteArray.toList_eq, e] at h2
      cases h2
    · exact h
  have hpp : ∀ k (h : k < S.size), ((S[k]).toNat : Int) < 128 := fun k h => by have := plainB_at S hp k h; omega
  by_cases h0 : n = 0
  · have e : T = ⟨#[]⟩ := by
      apply bytes_ext
      have := str_len T
      rw [hT, h0] at this
      exact List.eq_nil_of_length_eq_zero this
    subst e
    rw [h0]
    exact match_none S hS1 W
  · have := match_q T S hq (by omega) (by omega) h1 hS1 hpp W
    rw [hT] at this
    exact this
theorem fst_neg (S : ByteArray) : fstInt S.data.toList 47 < 0 ↔ S.size ≤ fstIx S.data.toList 47 := by
  constructor
  · intro h
    have := fstIx_none S.data.toList 47 h
    rw [str_len] at this
    omega
  · intro h
    have := fstInt_none S.data.toList 47 (by rw [str_len]; exact h)
    omega

set_option maxRecDepth 100000 in
set_option maxHeartbeats 4000000 in
theorem marks_yes (S : ByteArray) (n : Nat) (hn : n ≤ 100) (h1 : S.size ≤ 200) (h2 : Hid (S.toList.isEmpty = false)) (hp : Hid (plainB S.data.toList = true)) (he : Hid (S.size = n)) (hf : Hid (fstInt S.data.toList 47 < 0)) (hb : Hid (marksB n S = true)) (w : World) :
    Calls Tryd.prog 3 #[.string S, .int .i64 n] w fun e w' => e = .returned (.bool true) ∧ Below w.heap.size w w' := by
  have i1 : (2147483647 < (S.size : Int)) = False := eq_false (by omega)
  have i2 : ((n : Int) < 0) = False := eq_false (by omega)
  have i3 : (100 < (n : Int)) = False := eq_false (by omega)
  have j1 : ((S.size : Int) == (n : Int)) = true := by have := he.out; rw [beq_iff_eq]; omega
  have j2 : ((S.size : Int) = (n : Int)) = True := eq_true (by have := he.out; omega)
  go_enter Tryd.func3, Tryd.ntmps3
  go_wp2_with fail
  refine (asked_rest S (by omega) h1 h2.out _).mono ?_
  rintro e w1 ⟨rfl, rfl⟩
  rw [hp.out]
  go_wp2_with fail
  go_loop [5, 23] (fun m i => ∃ (k : Nat) (T : ByteArray), k ≤ n ∧ i = .int .i64 k ∧ m = .string T ∧ Hid (T.size = k) ∧ Hid (AllQ T)) (fun _ i => n - (intOf i).toNat)
  case atStart => exact ⟨0, ⟨#[]⟩, by omega, rfl, rfl, rfl, fun c hc => by simp at hc⟩
  case round =>
    obtain ⟨k, T, hk, rfl, rfl, hT, hq⟩ := hrel
    by_cases hlt : k < n
    · have hc := run_cat T ⟨#[63]⟩ (by have := hT.out; have : (⟨#[63]⟩ : ByteArray).size = 1 := rfl; omega)
      have hT2 : Hid ((T ++ ⟨#[63]⟩).size = k + 1) := by show _ = _; rw [ByteArray.size_append, hT.out]; rfl
      have hq2 : Hid (AllQ (T ++ ⟨#[63]⟩)) := allQ_more hq.out
      generalize T ++ ⟨#[63]⟩ = T2 at *
      go_wp2_with fail
      go_round
      case rel => exact ⟨k + 1, T2, by omega, by go_num, rfl, hT2, hq2⟩
      case measure => simp [intOf]; omega
    · have ek : k = n := by omega
      subst ek
      have HM := Lib.hid (match_marks T S k hn hT.out hq.out h1 h2.out hp.out)
      rw [hb.out] at HM
      go_wp2_with fail
      refine (matchName_any T S h2.out true HM _).mono ?_
      rintro e w2 ⟨rfl, hb2⟩
      have nk2 : w.heap.size ≤ w2.heap.size := hb2.size
      go_wp2_with fail
      have hfx := (eq_true hf.out : (fstInt S.data.toList 47 < 0) = True)
      refine (refFirst_any S 47 (by unfold maxLen; omega) _).mono ?_
      rintro e w3 ⟨rfl, rfl⟩
      generalize fstInt S.data.toList 47 = X at hfx
      go_wp2_with fail
      refine bodyPost_ret (v := .bool true) (by simp [results, Tryd.results3, go_sem]) rfl ⟨rfl, hb2⟩

set_option maxRecDepth 100000 in
set_option maxHeartbeats 4000000 in
theorem marks_slash (S : ByteArray) (n : Nat) (hn : n ≤ 100) (h1 : S.size ≤ 200) (h2 : Hid (S.toList.isEmpty = false)) (hp : Hid (plainB S.data.toList = true)) (he : Hid (S.size = n)) (hf : Hid (¬ fstInt S.data.toList 47 < 0)) (hb : Hid (marksB n S = false)) (w : World) :
    Calls Tryd.prog 3 #[.string S, .int .i64 n] w fun e w' => e = .returned (.bool true) ∧ Below w.heap.size w w' := by
  have i1 : (2147483647 < (S.size : Int)) = False := eq_false (by omega)
  have i2 : ((n : Int) < 0) = False := eq_false (by omega)
  have i3 : (100 < (n : Int)) = False := eq_false (by omega)
  have j1 : ((S.size : Int) == (n : Int)) = true := by have := he.out; rw [beq_iff_eq]; omega
  have j2 : ((S.size : Int) = (n : Int)) = True := eq_true (by have := he.out; omega)
  go_enter Tryd.func3, Tryd.ntmps3
  go_wp2_with fail
  refine (asked_rest S (by omega) h1 h2.out _).mono ?_
  rintro e w1 ⟨rfl, rfl⟩
  rw [hp.out]
  go_wp2_with fail
  go_loop [5, 23] (fun m i => ∃ (k : Nat) (T : ByteArray), k ≤ n ∧ i = .int .i64 k ∧ m = .string T ∧ Hid (T.size = k) ∧ Hid (AllQ T)) (fun _ i => n - (intOf i).toNat)
  case atStart => exact ⟨0, ⟨#[]⟩, by omega, rfl, rfl, rfl, fun c hc => by simp at hc⟩
  case round =>
    obtain ⟨k, T, hk, rfl, rfl, hT, hq⟩ := hrel
    by_cases hlt : k < n
    · have hc := run_cat T ⟨#[63]⟩ (by have := hT.out; have : (⟨#[63]⟩ : ByteArray).size = 1 := rfl; omega)
      have hT2 : Hid ((T ++ ⟨#[63]⟩).size = k + 1) := by show _ = _; rw [ByteArray.size_append, hT.out]; rfl
      have hq2 : Hid (AllQ (T ++ ⟨#[63]⟩)) := allQ_more hq.out
      generalize T ++ ⟨#[63]⟩ = T2 at *
      go_wp2_with fail
      go_round
      case rel => exact ⟨k + 1, T2, by omega, by go_num, rfl, hT2, hq2⟩
      case measure => simp [intOf]; omega
    · have ek : k = n := by omega
      subst ek
      have HM := Lib.hid (match_marks T S k hn hT.out hq.out h1 h2.out hp.out)
      rw [hb.out] at HM
      go_wp2_with fail
      refine (matchName_any T S h2.out false HM _).mono ?_
      rintro e w2 ⟨rfl, hb2⟩
      have nk2 : w.heap.size ≤ w2.heap.size := hb2.size
      go_wp2_with fail
      have hfx := (eq_false (by have h := hf.out; omega) : (fstInt S.data.toList 47 < 0) = False)
      refine (refFirst_any S 47 (by unfold maxLen; omega) _).mono ?_
      rintro e w3 ⟨rfl, rfl⟩
      generalize fstInt S.data.toList 47 = X at hfx
      go_wp2_with fail
      refine bodyPost_ret (v := .bool true) (by simp [results, Tryd.results3, go_sem]) rfl ⟨rfl, hb2⟩

set_option maxRecDepth 100000 in
set_option maxHeartbeats 4000000 in
theorem marks_len (S : ByteArray) (n : Nat) (hn : n ≤ 100) (h1 : S.size ≤ 200) (h2 : Hid (S.toList.isEmpty = false)) (hp : Hid (plainB S.data.toList = true)) (he : Hid (¬ S.size = n)) (hb : Hid (marksB n S = false)) (w : World) :
    Calls Tryd.prog 3 #[.string S, .int .i64 n] w fun e w' => e = .returned (.bool true) ∧ Below w.heap.size w w' := by
  have i1 : (2147483647 < (S.size : Int)) = False := eq_false (by omega)
  have i2 : ((n : Int) < 0) = False := eq_false (by omega)
  have i3 : (100 < (n : Int)) = False := eq_false (by omega)
  have j1 : ((S.size : Int) == (n : Int)) = false := by have := he.out; rw [beq_eq_false_iff_ne]; omega
  have j2 : ((S.size : Int) = (n : Int)) = False := eq_false (by have := he.out; omega)
  go_enter Tryd.func3, Tryd.ntmps3
  go_wp2_with fail
  refine (asked_rest S (by omega) h1 h2.out _).mono ?_
  rintro e w1 ⟨rfl, rfl⟩
  rw [hp.out]
  go_wp2_with fail
  go_loop [5, 23] (fun m i => ∃ (k : Nat) (T : ByteArray), k ≤ n ∧ i = .int .i64 k ∧ m = .string T ∧ Hid (T.size = k) ∧ Hid (AllQ T)) (fun _ i => n - (intOf i).toNat)
  case atStart => exact ⟨0, ⟨#[]⟩, by omega, rfl, rfl, rfl, fun c hc => by simp at hc⟩
  case round =>
    obtain ⟨k, T, hk, rfl, rfl, hT, hq⟩ := hrel
    by_cases hlt : k < n
    · have hc := run_cat T ⟨#[63]⟩ (by have := hT.out; have : (⟨#[63]⟩ : ByteArray).size = 1 := rfl; omega)
      have hT2 : Hid ((T ++ ⟨#[63]⟩).size = k + 1) := by show _ = _; rw [ByteArray.size_append, hT.out]; rfl
      have hq2 : Hid (AllQ (T ++ ⟨#[63]⟩)) := allQ_more hq.out
      generalize T ++ ⟨#[63]⟩ = T2 at *
      go_wp2_with fail
      go_round
      case rel => exact ⟨k + 1, T2, by omega, by go_num, rfl, hT2, hq2⟩
      case measure => simp [intOf]; omega
    · have ek : k = n := by omega
      subst ek
      have HM := Lib.hid (match_marks T S k hn hT.out hq.out h1 h2.out hp.out)
      rw [hb.out] at HM
      go_wp2_with fail
      refine (matchName_any T S h2.out false HM _).mono ?_
      rintro e w2 ⟨rfl, hb2⟩
      have nk2 : w.heap.size ≤ w2.heap.size := hb2.size
      go_wp2_with fail
      refine bodyPost_ret (v := .bool true) (by simp [results, Tryd.results3, go_sem]) rfl ⟨rfl, hb2⟩

set_option maxRecDepth 100000 in
set_option maxHeartbeats 4000000 in
theorem marks_big (S : ByteArray) (n : Int) (h : 2147483647 < S.size) (w : World) :
    Calls Tryd.prog 3 #[.string S, .int .i64 n] w fun e w' => e = .returned (.bool true) ∧ Below w.heap.size w w' := by
  have i1 : (2147483647 < (S.size : Int)) = True := eq_true (by omega)
  go_enter Tryd.func3, Tryd.ntmps3
  go_wp2_with fail
  go_ret
  exact ⟨rfl, Below.refl _ _⟩

set_option maxRecDepth 100000 in
set_option maxHeartbeats 4000000 in
theorem marks_neg (S : ByteArray) (n : Int) (h : S.size ≤ 2147483647) (hn : n < 0) (w : World) :
    Calls Tryd.prog 3 #[.string S, .int .i64 n] w fun e w' => e = .returned (.bool true) ∧ Below w.heap.size w w' := by
  have i1 : (2147483647 < (S.size : Int)) = False := eq_false (by omega)
  have i2 : (n < 0) = True := eq_true hn
  go_enter Tryd.func3, Tryd.ntmps3
  go_wp2_with fail
  go_ret
  exact ⟨rfl, Below.refl _ _⟩

set_option maxRecDepth 100000 in
set_option maxHeartbeats 4000000 in
theorem marks_many (S : ByteArray) (n : Int) (h : S.size ≤ 2147483647) (hn : 100 < n) (w : World) :
    Calls Tryd.prog 3 #[.string S, .int .i64 n] w fun e w' => e = .returned (.bool true) ∧ Below w.heap.size w w' := by
  have i1 : (2147483647 < (S.size : Int)) = False := eq_false (by omega)
  have i2 : (n < 0) = False := eq_false (by omega)
  have i3 : (100 < n) = True := eq_true hn
  go_enter Tryd.func3, Tryd.ntmps3
  go_wp2_with fail
  go_ret
  exact ⟨rfl, Below.refl _ _⟩

set_option maxRecDepth 100000 in
set_option maxHeartbeats 4000000 in
theorem marks_not (S : ByteArray) (n : Int) (h : S.size ≤ 2147483647) (h0 : 0 ≤ n) (hn : n ≤ 100) (ha : Hid (∀ W : World, Calls Tryd.prog 4 #[.string S, .slice none 0 0] W fun e w' => e = .returned (.bool false) ∧ W = w')) (w : World) :
    Calls Tryd.prog 3 #[.string S, .int .i64 n] w fun e w' => e = .returned (.bool true) ∧ Below w.heap.size w w' := by
  have i1 : (2147483647 < (S.size : Int)) = False := eq_false (by omega)
  have i2 : (n < 0) = False := eq_false (by omega)
  have i3 : (100 < n) = False := eq_false (by omega)
  go_enter Tryd.func3, Tryd.ntmps3
  go_wp2_with fail
  refine (ha.out _).mono ?_
  rintro e w1 ⟨rfl, rfl⟩
  go_wp2_with fail
  go_ret
  exact ⟨rfl, Below.refl _ _⟩

theorem marks_law (S : ByteArray) (n : Int) (_w0 : S.size ≤ maxLen) (_w1 : (Lit.int .i64 n).wf = true) (w : World) (_he : Hid (NoPrem w)) :
    Calls Tryd.prog 3 #[.string S, .int .i64 n] w fun e w' => e = .returned (.bool true) ∧ Below w.heap.size w w' := by
  by_cases a1 : 2147483647 < S.size
  · exact marks_big S n a1 w
  have a2 : S.size ≤ 2147483647 := by omega
  by_cases a3 : n < 0
  · exact marks_neg S n a2 a3 w
  by_cases a4 : 100 < n
  · exact marks_many S n a2 a4 w
  obtain ⟨n, rfl⟩ : ∃ k : Nat, n = k := ⟨n.toNat, by omega⟩
  by_cases a5 : 200 < S.size
  · exact marks_not S n a2 (by omega) (by omega) (fun W => asked_long S a2 a5 W) w
  have a6 : S.size ≤ 200 := by omega
  cases a7 : S.toList.isEmpty with
  | true => exact marks_not S n a2 (by omega) (by omega) (fun W => asked_empty S a2 a6 (by simpa using a7) W) w
  | false =>
    cases a8 : plainB S.data.toList with
    | false => exact marks_not S n a2 (by omega) (by omega) (fun W => by have h := asked_rest S a2 a6 a7 W; rw [a8] at h; exact h) w
    | true =>
      by_cases b1 : S.size = n
      · by_cases b2 : fstInt S.data.toList 47 < 0
        · refine marks_yes S n (by omega) a6 a7 a8 b1 b2 ?_ w
          show _ = _
          unfold marksB
          rw [decide_eq_true b1.symm, decide_eq_true (by have := (fst_neg S).1 b2; omega)]; rfl
        · refine marks_slash S n (by omega) a6 a7 a8 b1 b2 ?_ w
          show _ = _
          unfold marksB
          rw [decide_eq_false (p := n ≤ fstIx S.data.toList 47) (fun h => b2 ((fst_neg S).2 (by omega)))]; simp
      · refine marks_len S n (by omega) a6 a7 a8 b1 ?_ w
        show _ = _
        unfold marksB
        rw [decide_eq_false (p := n = S.size) (fun h => b1 h.symm)]; rfl
end Go.Proofs.YtojcadkdkinacaaDoor
