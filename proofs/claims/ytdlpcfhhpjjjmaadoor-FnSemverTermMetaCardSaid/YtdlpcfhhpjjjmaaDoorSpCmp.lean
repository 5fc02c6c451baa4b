/- spec.ComparePre, Compare, Least. -/
import Derived.Test.YtdlpcfhhpjjjmaaDoorSpNum
import Derived.Test.YtdlpcfhhpjjjmaaDoorGoodTerm
namespace Go.Proofs.YtdlpcfhhpjjjmaaDoor
open Go.RowKit
set_option linter.unusedVariables false
set_option linter.unusedSimpArgs false

def specPreF (s o : ByteArray) : Int := if (s.toList == o.toList) = true then 0 else if s.toList.isEmpty = true then 1 else if o.toList.isEmpty = true then -1 else specPreT s o

set_option maxRecDepth 100000 in
set_option maxHeartbeats 2000000 in
theorem cpreF_any (s o : ByteArray) (hs : s.size ≤ 2147483653) (ho : o.size ≤ 2147483653) (w : World) :
    Calls Tryd.prog 18 #[.string s, .string o] w (PartPost (specPreF s o) w) := by
  unfold specPreF
  cases he : (s.toList == o.toList) with
  | true =>
    rw [if_pos rfl]
    go_enter Tryd.func18, Tryd.ntmps18
    go_wp2_with fail
    go_ret
    exact ⟨rfl, Below.refl _ _⟩
  | false =>
    rw [if_neg (by decide)]
    cases h1 : s.toList.isEmpty with
    | true =>
      rw [if_pos rfl]
      have e1 : s.toList = [] := by simpa using h1
      rw [e1] at he
      have e2 : o.toList.isEmpty = false := by
        cases h : o.toList with
        | nil => rw [h] at he; simp at he
        | cons => rfl
      clear he h1
      go_enter Tryd.func18, Tryd.ntmps18
      go_wp2_with fail
      go_ret
      exact ⟨rfl, Below.refl _ _⟩
    | false =>
      rw [if_neg (by decide)]
      cases h2 : o.toList.isEmpty with
      | true =>
        rw [if_pos rfl]
        have e1 : o.toList = [] := by simpa using h2
        clear he h2
        go_enter Tryd.func18, Tryd.ntmps18
        go_wp2_with fail
        go_ret
        exact ⟨rfl, Below.refl _ _⟩
      | false =>
        rw [if_neg (by decide)]
        exact cpre_any s o hs ho h1 h2 w

def specCmp (a b c : Int) (p : ByteArray) (x y z : Int) (q : ByteArray) : Int := if numI 3 a b c x y z = 0 then specPreF p q else numI 3 a b c x y z

set_option maxRecDepth 100000 in
set_option maxHeartbeats 2000000 in
theorem spCompare_any (a b c x y z : Int) (p m q n : ByteArray) (hp : p.size ≤ 2147483653) (hq : q.size ≤ 2147483653) (w : World) :
    Calls Tryd.prog 100 #[.agg (plainC a b c p m), .agg (plainC x y z q n)] w (PartPost (specCmp a b c p x y z q) w) := by
  obtain ⟨R, HR⟩ : ∃ R, Hid (specCmp a b c p x y z q = R) := ⟨_, rfl⟩
  rw [HR.out]
  obtain ⟨N, HN⟩ : ∃ N, Hid (numI 3 a b c x y z = N) := ⟨_, rfl⟩
  go_enter Tryd.func100, Tryd.ntmps100
  go_wp2_with fail
  refine (spNumbers_any 3 a b c x y z _ _ _ _ _).mono ?_
  rintro e w1 ⟨rfl, hb⟩
  rw [HN.out]
  have c3 : w1.cell? ⟨w.heap.size, 3, none⟩ = some (.string p) := keepB hb (by first | omega | (simp <;> omega)) (((plainAt_last _ _ _ rfl).alloc _).cell 3)
  have d3 : w1.cell? ⟨w.heap.size + 1, 3, none⟩ = some (.string q) := keepB hb (by first | omega | (simp <;> omega)) ((plainAt_last _ _ _ (by simp)).cell 3)
  have bk : Below w.heap.size w w1 := Below.trans (by repeat (first | (with_reducible assumption) | (with_reducible exact Below.refl _ _) | (with_reducible refine below_drewN ?_ _) | (with_reducible refine Below.drew ?_) | (with_reducible refine Below.alloc ?_ (by first | omega | (simp <;> omega)) _))) (hb.mono (by first | omega | (simp <;> omega)))
  clear hb
  by_cases h : N = 0
  · subst h
    go_wp2_with fail
    refine (cpreF_any p q hp hq _).mono ?_
    rintro e w2 ⟨rfl, hb2⟩
    go_wp2_with fail
    go_ret
    exact ⟨ret_int (by rw [← HR.out]; unfold specCmp; rw [HN.out, if_pos rfl]), bk.trans (hb2.mono bk.size)⟩
  · have h2 : (N = 0) = False := by simp; exact h
    have h3 : (N != 0) = true := by simp; exact h
    have h4 : (N == 0) = false := by simp; exact h
    go_wp2_with fail
    go_ret
    exact ⟨ret_int (by rw [← HR.out]; unfold specCmp; rw [HN.out, if_neg h]), bk⟩

theorem least_any (o g a b c : Int) (p : ByteArray) (w : World) :
    Calls Tryd.prog 30 #[.agg (termC o g a b c p)] w fun e w' => e = .returned (.agg (plainC a b c p ⟨#[]⟩)) ∧ Below w.heap.size w w' := by
  go_enter Tryd.func30, Tryd.ntmps30
  go_wp2_with fail
  refine bodyPost_ret (v := .agg (plainC a b c p ⟨#[]⟩)) (by simp [results, Tryd.results30, go_sem]) rfl ⟨rfl, ?_⟩
  exact (by repeat (first | (with_reducible assumption) | (with_reducible exact Below.refl _ _) | (with_reducible refine below_drewN ?_ _) | (with_reducible refine Below.drew ?_) | (with_reducible refine Below.alloc ?_ (by first | omega | (simp <;> omega)) _)))

theorem tildeNumbers_0 (o a b c : Int) (p : ByteArray) (w : World) :
    Calls Tryd.prog 101 #[.agg (termC o 0 a b c p)] w fun e w' => e = .returned (.int .i64 0) ∧ Below w.heap.size w w' := by
  go_enter Tryd.func101, Tryd.ntmps101
  go_wp2_with fail
  go_ret
  exact ⟨rfl, (by repeat (first | (with_reducible assumption) | (with_reducible exact Below.refl _ _) | (with_reducible refine below_drewN ?_ _) | (with_reducible refine Below.drew ?_) | (with_reducible refine Below.alloc ?_ (by first | omega | (simp <;> omega)) _)))⟩
theorem tildeNumbers_1 (o a b c : Int) (p : ByteArray) (w : World) :
    Calls Tryd.prog 101 #[.agg (termC o 1 a b c p)] w fun e w' => e = .returned (.int .i64 1) ∧ Below w.heap.size w w' := by
  go_enter Tryd.func101, Tryd.ntmps101
  go_wp2_with fail
  go_ret
  exact ⟨rfl, (by repeat (first | (with_reducible assumption) | (with_reducible exact Below.refl _ _) | (with_reducible refine below_drewN ?_ _) | (with_reducible refine Below.drew ?_) | (with_reducible refine Below.alloc ?_ (by first | omega | (simp <;> omega)) _)))⟩
theorem tildeNumbers_2 (o a b c : Int) (p : ByteArray) (w : World) :
    Calls Tryd.prog 101 #[.agg (termC o 2 a b c p)] w fun e w' => e = .returned (.int .i64 2) ∧ Below w.heap.size w w' := by
  go_enter Tryd.func101, Tryd.ntmps101
  go_wp2_with fail
  go_ret
  exact ⟨rfl, (by repeat (first | (with_reducible assumption) | (with_reducible exact Below.refl _ _) | (with_reducible refine below_drewN ?_ _) | (with_reducible refine Below.drew ?_) | (with_reducible refine Below.alloc ?_ (by first | omega | (simp <;> omega)) _)))⟩
theorem tildeNumbers_3 (o a b c : Int) (p : ByteArray) (w : World) :
    Calls Tryd.prog 101 #[.agg (termC o 3 a b c p)] w fun e w' => e = .returned (.int .i64 2) ∧ Below w.heap.size w w' := by
  go_enter Tryd.func101, Tryd.ntmps101
  go_wp2_with fail
  go_ret
  exact ⟨rfl, (by repeat (first | (with_reducible assumption) | (with_reducible exact Below.refl _ _) | (with_reducible refine below_drewN ?_ _) | (with_reducible refine Below.drew ?_) | (with_reducible refine Below.alloc ?_ (by first | omega | (simp <;> omega)) _)))⟩
end Go.Proofs.YtdlpcfhhpjjjmaaDoor
