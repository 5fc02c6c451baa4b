/- laws.FnSemverPre for every input. -/
import Derived.Test.YtdlpcfhhpjjjmaaDoorSpecPreB
import Derived.Test.YtdlpcfhhpjjjmaaDoorSvGoods
namespace Go.Proofs.YtdlpcfhhpjjjmaaDoor
open Go.RowKit
set_option linter.unusedVariables false
set_option linter.unusedSimpArgs false

theorem row2 (W : World) (g : Nat) (hn : g = W.heap.size) (v1 v2 : VP) : RowAt (W.alloc (.cells #[.int .u64 v1.1, .int .u64 v1.2.1, .int .u64 v1.2.2.1, .string v1.2.2.2.1, .string v1.2.2.2.2, .int .u64 v2.1, .int .u64 v2.2.1, .int .u64 v2.2.2.1, .string v2.2.2.2.1, .string v2.2.2.2.2] 25)) g [v1, v2] := by
  intro i hi
  rcases i with _ | _ | i
  · exact ⟨(plainAt_last W _ g hn).cell 0, (plainAt_last W _ g hn).cell 1, (plainAt_last W _ g hn).cell 2, (plainAt_last W _ g hn).cell 3, (plainAt_last W _ g hn).cell 4⟩
  · exact ⟨(plainAt_last W _ g hn).cell 5, (plainAt_last W _ g hn).cell 6, (plainAt_last W _ g hn).cell 7, (plainAt_last W _ g hn).cell 8, (plainAt_last W _ g hn).cell 9⟩
  · exact absurd hi (by show ¬ i + 1 + 1 < 2; omega)

theorem okV_pre (q m : ByteArray) (h : okV (0, 0, 0, q, m) = true) (e : q.toList.isEmpty = false) : q.size ≤ 65536 ∧ vpreB q = true ∧ smallB q = true := by
  unfold okV goodB at h
  simp only at h
  rw [e] at h
  simp only [Bool.and_eq_true, Bool.false_or] at h
  obtain ⟨⟨h1, _⟩, ⟨h2, h3⟩, _⟩ := h
  exact ⟨by simpa [shortOk] using h1, h2, h3⟩

theorem partI_id (s : ByteArray) : partI s s = 0 := by
  unfold partI; simp
theorem partsAt_id (A : List ByteArray) (k i : Nat) : partsAt A A k i = 0 := by
  induction k generalizing i with
  | zero => rfl
  | succ n ih => rw [partsAt, if_pos (partI_id _), ih]
theorem pre_both (s o : ByteArray) (h1 : vpreB s = true) (h2 : smallB s = true) (h3 : vpreB o = true) (h4 : smallB o = true) : specPreT s o = preI s o := by
  unfold specPreT
  cases h : (s.toList == o.toList) with
  | true =>
    rw [if_pos rfl]
    have e : s = o := by
      apply bytes_ext
      rw [← ByteArray.toList_eq, ← ByteArray.toList_eq]
      simpa using h
    subst e
    exact (partsAt_id _ _ _).symm
  | false =>
    rw [if_neg (by decide)]
    exact (pre_law s o h1 h2 h3 h4).symm

set_option maxRecDepth 100000 in
set_option maxHeartbeats 4000000 in
theorem pre_go (q n : ByteArray) (hq : q.size ≤ 2147483647) (hn : n.size ≤ 2147483647) (w : World) (he : Hid (Errs w)) :
    Calls Tryd.prog 3 #[.string q, .string n] w (BoolPost true w) := by
  cases eq : q.toList.isEmpty with
  | true =>
    have hq1 : q.toList = [] := by simpa using eq
    clear eq
    go_enter Tryd.func3, Tryd.ntmps3
    go_wp2_with fail
    go_ret
    exact ⟨rfl, by repeat (first | exact Below.refl _ _ | refine Below.alloc ?_ (by first | omega | (simp <;> omega)) _)⟩
  | false =>
    cases en : n.toList.isEmpty with
    | true =>
      have hn1 : n.toList = [] := by simpa using en
      clear en
      go_enter Tryd.func3, Tryd.ntmps3
      go_wp2_with fail
      go_ret
      exact ⟨rfl, by repeat (first | exact Below.refl _ _ | refine Below.alloc ?_ (by first | omega | (simp <;> omega)) _)⟩
    | false =>
      have EQ := Lib.hid eq
      have EN := Lib.hid en
      go_enter Tryd.func3, Tryd.ntmps3
      go_wp2_with fail
      refine (svPre_any 0 0 0 ⟨#[]⟩ ⟨#[]⟩ q _).mono ?_
      rintro e w1 ⟨rfl, rfl⟩
      go_wp2_with fail
      refine (svPre_any 0 0 0 ⟨#[]⟩ ⟨#[]⟩ n _).mono ?_
      rintro e w1 ⟨rfl, rfl⟩
      go_wp2_with fail
      refine (svGood_any _ 2 [(0, 0, 0, q, ⟨#[]⟩), (0, 0, 0, n, ⟨#[]⟩)] (by simp) (by simp) (fun i => by rcases i with _ | _ | i <;> first | exact ⟨hq, Nat.zero_le _⟩ | exact ⟨hn, Nat.zero_le _⟩ | exact ⟨Nat.zero_le _, Nat.zero_le _⟩) _ (by simp) (row2 _ _ (by simp) (0, 0, 0, q, ⟨#[]⟩) (0, 0, 0, n, ⟨#[]⟩))).mono ?_
      rintro e w' ⟨rfl, hb⟩
      obtain ⟨bg, HBG⟩ : ∃ bg, Hid (goodAll [(0, 0, 0, q, ⟨#[]⟩), (0, 0, 0, n, ⟨#[]⟩)] = bg) := ⟨_, rfl⟩
      rw [HBG.out]
      have bk : Below w.heap.size w w' := Below.trans (by repeat (first | exact Below.refl _ _ | refine Below.alloc ?_ (by first | omega | (simp <;> omega)) _)) (hb.mono (by first | omega | (simp <;> omega)))
      clear hb
      cases bg with
      | false =>
        go_wp2_with fail
        go_ret
        exact ⟨rfl, bk⟩
      | true =>
        obtain ⟨z1, z2, z3, z4, z5, z6⟩ : q.size ≤ 65536 ∧ n.size ≤ 65536 ∧ vpreB q = true ∧ smallB q = true ∧ vpreB n = true ∧ smallB n = true := by
          have h9 := HBG.out
          unfold goodAll at h9
          simp only [List.all_cons, List.all_nil, Bool.and_true, Bool.and_eq_true] at h9
          have a := okV_pre q _ h9.1 EQ.out
          have b := okV_pre n _ h9.2 EN.out
          exact ⟨a.1, b.1, a.2.1, a.2.2, b.2.1, b.2.2⟩
        have HP := Lib.hid (pre_both q n z3 z4 z5 z6)
        obtain ⟨R, HR⟩ : ∃ R, Hid (preI q n = R) := ⟨_, rfl⟩
        have HPR : Hid (specPreT q n = R) := HP.out.trans HR.out
        clear z3 z4 z5 z6 eq en
        go_wp2_with fail
        refine (implPre_any q n (by omega) (by omega) _ (he.below bk)).mono ?_
        rintro e w2 ⟨rfl, hb2⟩
        rw [HR.out]
        have b2 := bk.trans (hb2.mono bk.size)
        go_wp2_with fail
        refine (cpre_any q n (by omega) (by omega) EQ.out EN.out _).mono ?_
        rintro e w3 ⟨rfl, hb3⟩
        rw [HPR.out]
        go_wp2_with fail
        go_ret
        exact ⟨rfl, b2.trans (hb3.mono b2.size)⟩

set_option maxRecDepth 100000 in
set_option maxHeartbeats 2000000 in
theorem pre_fq (q n : ByteArray) (hq : 2147483647 < q.size) (w : World) :
    Calls Tryd.prog 3 #[.string q, .string n] w (BoolPost true w) := by
  go_enter Tryd.func3, Tryd.ntmps3
  go_wp2_with fail
  go_ret
  exact ⟨rfl, by repeat (first | exact Below.refl _ _ | refine Below.alloc ?_ (by first | omega | (simp <;> omega)) _)⟩
set_option maxRecDepth 100000 in
set_option maxHeartbeats 2000000 in
theorem pre_fn (q n : ByteArray) (hq : ¬ 2147483647 < q.size) (hn : 2147483647 < n.size) (w : World) :
    Calls Tryd.prog 3 #[.string q, .string n] w (BoolPost true w) := by
  go_enter Tryd.func3, Tryd.ntmps3
  go_wp2_with fail
  go_ret
  exact ⟨rfl, by repeat (first | exact Below.refl _ _ | refine Below.alloc ?_ (by first | omega | (simp <;> omega)) _)⟩

theorem preLaw_any (q n : ByteArray) (_w0 : q.size ≤ maxLen) (_w1 : n.size ≤ maxLen) (w : World) (he : Hid (Errs w)) :
    Calls Tryd.prog 3 #[.string q, .string n] w fun e w' => e = .returned (.bool true) ∧ Below w.heap.size w w' := by
  by_cases hq : 2147483647 < q.size
  · exact pre_fq q n hq w
  · by_cases hn : 2147483647 < n.size
    · exact pre_fn q n hq hn w
    · exact pre_go q n (by omega) (by omega) w he
end Go.Proofs.YtdlpcfhhpjjjmaaDoor
