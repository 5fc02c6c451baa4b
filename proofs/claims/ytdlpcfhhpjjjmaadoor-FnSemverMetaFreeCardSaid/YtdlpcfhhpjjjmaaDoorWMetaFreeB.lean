/- laws.FnSemverMetaFree for every input. -/
import Derived.Test.YtdlpcfhhpjjjmaaDoorWMetaFree
namespace Go.Proofs.YtdlpcfhhpjjjmaaDoor
open Go.RowKit

set_option maxRecDepth 100000 in
set_option maxHeartbeats 2000000 in
theorem metaFree_fa (a b c x y z : Int) (p m q n r s : ByteArray) (h : (decide (p.size ≤ 2147483647) && decide (m.size ≤ 2147483647)) = false) (w : World) :
    Calls Tryd.prog 5 #[.agg (plainC a b c p m), .agg (plainC x y z q n), .string r, .string s] w (BoolPost true w) := by
  have H := Lib.hid h
  clear h
  go_enter Tryd.func5, Tryd.ntmps5
  go_wp2_with fail
  refine (fits14_any a b c p m false H.out _).mono ?_
  rintro e w1 ⟨rfl, rfl⟩
  go_wp2_with fail
  go_ret
  exact ⟨rfl, by repeat (first | exact Below.refl _ _ | refine Below.alloc ?_ (by first | omega | (simp <;> omega)) _)⟩

set_option maxRecDepth 100000 in
set_option maxHeartbeats 2000000 in
theorem metaFree_fb (a b c x y z : Int) (p m q n r s : ByteArray) (h1 : (decide (p.size ≤ 2147483647) && decide (m.size ≤ 2147483647)) = true) (h : (decide (q.size ≤ 2147483647) && decide (n.size ≤ 2147483647)) = false) (w : World) :
    Calls Tryd.prog 5 #[.agg (plainC a b c p m), .agg (plainC x y z q n), .string r, .string s] w (BoolPost true w) := by
  have H1 := Lib.hid h1
  have H := Lib.hid h
  clear h h1
  go_enter Tryd.func5, Tryd.ntmps5
  go_wp2_with fail
  refine (fits14_any a b c p m true H1.out _).mono ?_
  rintro e w1 ⟨rfl, rfl⟩
  go_wp2_with fail
  refine (fits14_any x y z q n false H.out _).mono ?_
  rintro e w2 ⟨rfl, rfl⟩
  go_wp2_with fail
  go_ret
  exact ⟨rfl, by repeat (first | exact Below.refl _ _ | refine Below.alloc ?_ (by first | omega | (simp <;> omega)) _)⟩

set_option maxRecDepth 100000 in
set_option maxHeartbeats 2000000 in
theorem metaFree_fr (a b c x y z : Int) (p m q n r s : ByteArray) (h1 : (decide (p.size ≤ 2147483647) && decide (m.size ≤ 2147483647)) = true) (h : (decide (q.size ≤ 2147483647) && decide (n.size ≤ 2147483647)) = true) (hr : 2147483647 < r.size) (w : World) :
    Calls Tryd.prog 5 #[.agg (plainC a b c p m), .agg (plainC x y z q n), .string r, .string s] w (BoolPost true w) := by
  have H1 := Lib.hid h1
  have H := Lib.hid h
  clear h h1
  go_enter Tryd.func5, Tryd.ntmps5
  go_wp2_with fail
  refine (fits14_any a b c p m true H1.out _).mono ?_
  rintro e w1 ⟨rfl, rfl⟩
  go_wp2_with fail
  refine (fits14_any x y z q n true H.out _).mono ?_
  rintro e w2 ⟨rfl, rfl⟩
  go_wp2_with fail
  go_ret
  exact ⟨rfl, by repeat (first | exact Below.refl _ _ | refine Below.alloc ?_ (by first | omega | (simp <;> omega)) _)⟩

set_option maxRecDepth 100000 in
set_option maxHeartbeats 2000000 in
theorem metaFree_fs (a b c x y z : Int) (p m q n r s : ByteArray) (h1 : (decide (p.size ≤ 2147483647) && decide (m.size ≤ 2147483647)) = true) (h : (decide (q.size ≤ 2147483647) && decide (n.size ≤ 2147483647)) = true) (hr : ¬ 2147483647 < r.size) (hs : 2147483647 < s.size) (w : World) :
    Calls Tryd.prog 5 #[.agg (plainC a b c p m), .agg (plainC x y z q n), .string r, .string s] w (BoolPost true w) := by
  have H1 := Lib.hid h1
  have H := Lib.hid h
  clear h h1
  go_enter Tryd.func5, Tryd.ntmps5
  go_wp2_with fail
  refine (fits14_any a b c p m true H1.out _).mono ?_
  rintro e w1 ⟨rfl, rfl⟩
  go_wp2_with fail
  refine (fits14_any x y z q n true H.out _).mono ?_
  rintro e w2 ⟨rfl, rfl⟩
  go_wp2_with fail
  go_ret
  exact ⟨rfl, by repeat (first | exact Below.refl _ _ | refine Below.alloc ?_ (by first | omega | (simp <;> omega)) _)⟩

theorem metaFree_any (a b c : Int) (p m : ByteArray) (x y z : Int) (q n r s : ByteArray) (_w0 : (Lit.int .u64 a).wf = true) (_w1 : (Lit.int .u64 b).wf = true) (_w2 : (Lit.int .u64 c).wf = true) (_w3 : p.size ≤ maxLen) (_w4 : m.size ≤ maxLen)
    (_w5 : (Lit.int .u64 x).wf = true) (_w6 : (Lit.int .u64 y).wf = true) (_w7 : (Lit.int .u64 z).wf = true) (_w8 : q.size ≤ maxLen) (_w9 : n.size ≤ maxLen) (_wr : r.size ≤ maxLen) (_ws : s.size ≤ maxLen) (w : World) (he : Hid (Errs w)) :
    Calls Tryd.prog 5 #[.agg #[.int .u64 a, .int .u64 b, .int .u64 c, .string p, .string m], .agg #[.int .u64 x, .int .u64 y, .int .u64 z, .string q, .string n], .string r, .string s] w fun e w' => e = .returned (.bool true) ∧ Below w.heap.size w w' := by
  cases h1 : (decide (p.size ≤ 2147483647) && decide (m.size ≤ 2147483647)) with
  | false => exact metaFree_fa a b c x y z p m q n r s h1 w
  | true =>
    cases h2 : (decide (q.size ≤ 2147483647) && decide (n.size ≤ 2147483647)) with
    | false => exact metaFree_fb a b c x y z p m q n r s h1 h2 w
    | true =>
      by_cases hr : 2147483647 < r.size
      · exact metaFree_fr a b c x y z p m q n r s h1 h2 hr w
      · by_cases hs : 2147483647 < s.size
        · exact metaFree_fs a b c x y z p m q n r s h1 h2 hr hs w
        · simp only [Bool.and_eq_true, decide_eq_true_eq] at h1 h2
          exact metaFree_go a b c x y z p m q n r s h1.1 h2.1 h1.2 h2.2 (by omega) (by omega) w he
end Go.Proofs.YtdlpcfhhpjjjmaaDoor
