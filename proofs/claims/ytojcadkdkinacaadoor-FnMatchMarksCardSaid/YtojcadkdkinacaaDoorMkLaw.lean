/- laws.FnMatchMarks returns true for every input. -/
import Derived.Test.YtojcadkdkinacaaDoorMkRef
namespace Go.Proofs.YtojcadkdkinacaaDoor
open Go.RowKit
set_option linter.unusedVariables false
set_option linter.unusedSimpArgs false

def MatchIs (T S : ByteArray) (b : Bool) : Prop := ∀ W : World, Calls Tryd.prog 12 #[.string T, .string S] W fun e w' => e = .returned (.tuple #[.bool b, .nilIface]) ∧ W = w'

set_option maxRecDepth 100000 in
set_option maxHeartbeats 4000000 in
theorem famMatch_t (T S : ByteArray) (HM : Hid (MatchIs T S true)) (w : World) :
    Calls Tryd.prog 10 #[.string T, .iface 48 (.agg #[.string ⟨#[]⟩, .string S])] w fun e w' => e = .returned (.tuple #[.bool true, .nilIface]) ∧ Below w.heap.size w w' := by
  have a1 := assertN3
  go_enter Tryd.func10, Tryd.ntmps10
  go_wp2_with fail
  refine (famString_path S _).mono ?_
  rintro e w1 ⟨rfl, hb1⟩
  go_wp2_with fail
  refine (HM.out _).mono ?_
  rintro e w2 ⟨rfl, rfl⟩
  go_wp2_with fail
  refine bodyPost_ret (v := .tuple #[.bool true, .nilIface]) (by simp [results, Tryd.results10, go_sem]) rfl ⟨rfl, hb1⟩

set_option maxRecDepth 100000 in
set_option maxHeartbeats 4000000 in
theorem famMatch_f (T S : ByteArray) (HM : Hid (MatchIs T S false)) (w : World) :
    Calls Tryd.prog 10 #[.string T, .iface 48 (.agg #[.string ⟨#[]⟩, .string S])] w fun e w' => e = .returned (.tuple #[.bool false, .nilIface]) ∧ Below w.heap.size w w' := by
  have a1 := assertN3
  go_enter Tryd.func10, Tryd.ntmps10
  go_wp2_with fail
  refine (famString_path S _).mono ?_
  rintro e w1 ⟨rfl, hb1⟩
  go_wp2_with fail
  refine (HM.out _).mono ?_
  rintro e w2 ⟨rfl, rfl⟩
  go_wp2_with fail
  refine (famName_path S _).mono ?_
  rintro e w3 ⟨rfl, hb3⟩
  go_wp2_with fail
  refine (HM.out _).mono ?_
  rintro e w4 ⟨rfl, rfl⟩
  go_wp2_with fail
  refine bodyPost_ret (v := .tuple #[.bool false, .nilIface]) (by simp [results, Tryd.results10, go_sem]) rfl ⟨rfl, hb1.trans (hb3.mono hb1.size)⟩

theorem famMatch_any (T S : ByteArray) (b : Bool) (HM : Hid (MatchIs T S b)) (w : World) :
    Calls Tryd.prog 10 #[.string T, .iface 48 (.agg #[.string ⟨#[]⟩, .string S])] w fun e w' => e = .returned (.tuple #[.bool b, .nilIface]) ∧ Below w.heap.size w w' := by
  cases b with
  | true => exact famMatch_t T S HM w
  | false => exact famMatch_f T S HM w

set_option maxRecDepth 100000 in
set_option maxHeartbeats 4000000 in
theorem refMatch_any (T S : ByteArray) (h0 : S.toList.isEmpty = false) (b : Bool) (HM : Hid (MatchIs T S b)) (w : World) :
    Calls Tryd.prog 8 #[.string T, .agg #[.string ⟨#[]⟩, .string S, .string ⟨#[]⟩, .string ⟨#[]⟩]] w fun e w' => e = .returned (.tuple #[.bool b, .bool true]) ∧ Below w.heap.size w w' := by
  have H0 := Lib.hid h0
  clear h0
  have bel : ∀ W, Below w.heap.size w W → True := fun _ _ => trivial
  cases b with
  | true =>
    go_enter Tryd.func8, Tryd.ntmps8
    go_wp2_with fail
    refine (ref_path S H0.out _).mono ?_
    rintro e w1 ⟨rfl, hb1⟩
    have bk : Below w.heap.size w w1 := Below.trans (by repeat (first | (with_reducible assumption) | (with_reducible exact Below.refl _ _) | (with_reducible refine Below.alloc ?_ (by first | exact Nat.le_refl _ | omega | (simp <;> omega)) _))) (hb1.mono (by first | exact Nat.le_refl _ | omega | (simp <;> omega)))
    clear hb1
    go_wp2_with fail
    refine (famMatch_any T S true HM _).mono ?_
    rintro e w2 ⟨rfl, hb2⟩
    have bk2 : Below w.heap.size w w2 := bk.trans (hb2.mono bk.size)
    have nk2 : w.heap.size ≤ w2.heap.size := bk2.size
    clear hb2
    go_wp2_with fail
    go_region
    all_goals go_wp2_with fail
    all_goals
      refine bodyPost_ret (v := .tuple #[.bool true, .bool true]) (by simp [results, Tryd.results8, go_sem]) rfl ⟨rfl, ?_⟩
      exact (by repeat (first | (with_reducible assumption) | (with_reducible exact Below.refl _ _) | (with_reducible refine below_drewN ?_ _) | (with_reducible refine Below.drew ?_) | (with_reducible refine Below.alloc ?_ (by first | exact Nat.le_refl _ | omega | (simp <;> omega)) _)))
  | false =>
    go_enter Tryd.func8, Tryd.ntmps8
    go_wp2_with fail
    refine (ref_path S H0.out _).mono ?_
    rintro e w1 ⟨rfl, hb1⟩
    have bk : Below w.heap.size w w1 := Below.trans (by repeat (first | (with_reducible assumption) | (with_reducible exact Below.refl _ _) | (with_reducible refine Below.alloc ?_ (by first | exact Nat.le_refl _ | omega | (simp <;> omega)) _))) (hb1.mono (by first | exact Nat.le_refl _ | omega | (simp <;> omega)))
    clear hb1
    go_wp2_with fail
    refine (famMatch_any T S false HM _).mono ?_
    rintro e w2 ⟨rfl, hb2⟩
    have bk2 : Below w.heap.size w w2 := bk.trans (hb2.mono bk.size)
    have nk2 : w.heap.size ≤ w2.heap.size := bk2.size
    clear hb2
    go_wp2_with fail
    go_region
    all_goals go_wp2_with fail
    all_goals
      refine bodyPost_ret (v := .tuple #[.bool false, .bool true]) (by simp [results, Tryd.results8, go_sem]) rfl ⟨rfl, ?_⟩
      exact (by repeat (first | (with_reducible assumption) | (with_reducible exact Below.refl _ _) | (with_reducible refine below_drewN ?_ _) | (with_reducible refine Below.drew ?_) | (with_reducible refine Below.alloc ?_ (by first | exact Nat.le_refl _ | omega | (simp <;> omega)) _)))

set_option maxRecDepth 100000 in
set_option maxHeartbeats 4000000 in
theorem matchName_any (T S : ByteArray) (h0 : S.toList.isEmpty = false) (b : Bool) (HM : Hid (MatchIs T S b)) (w : World) :
    Calls Tryd.prog 5 #[.string T, .string S] w fun e w' => e = .returned (.tuple #[.bool b, .bool true]) ∧ Below w.heap.size w w' := by
  have H0 := Lib.hid h0
  clear h0
  go_enter Tryd.func5, Tryd.ntmps5
  go_wp2_with fail
  refine (refMatch_any T S H0.out b HM _).mono ?_
  rintro e w1 ⟨rfl, hb1⟩
  go_wp2_with fail
  refine bodyPost_ret (v := .tuple #[.bool b, .bool true]) (by simp [results, Tryd.results5, go_sem]) rfl ⟨rfl, Below.trans (by repeat (first | (with_reducible assumption) | (with_reducible exact Below.refl _ _) | (with_reducible refine Below.alloc ?_ (by first | exact Nat.le_refl _ | omega | (simp <;> omega)) _))) (hb1.mono (by first | exact Nat.le_refl _ | omega | (simp <;> omega)))⟩

set_option maxRecDepth 100000 in
set_option maxHeartbeats 4000000 in
theorem asked_long (S : ByteArray) (hs : S.size ≤ 2147483647) (h1 : 200 < S.size) (w : World) :
    Calls Tryd.prog 4 #[.string S, .slice none 0 0] w fun e w' => e = .returned (.bool false) ∧ w = w' := by
  have i1 : ((S.size : Int) ≤ 200) = False := eq_false (by omega)
  go_enter Tryd.func4, Tryd.ntmps4
  go_wp2_with fail
  go_loop [5, 12] (fun n i => n = .int .i64 S.size ∧ i = .int .i64 0) (fun _ _ => 0)
  case atStart => exact ⟨rfl, rfl⟩
  case round =>
    obtain ⟨rfl, rfl⟩ := hrel
    go_wp2_with fail
    refine bodyPost_ret (v := .bool false) (by simp [results, Tryd.results4, go_sem]) rfl ⟨rfl, rfl⟩

set_option maxRecDepth 100000 in
set_option maxHeartbeats 4000000 in
theorem asked_empty (S : ByteArray) (hs : S.size ≤ 2147483647) (h1 : S.size ≤ 200) (h2 : S.toList = []) (w : World) :
    Calls Tryd.prog 4 #[.string S, .slice none 0 0] w fun e w' => e = .returned (.bool false) ∧ w = w' := by
  have i1 : ((S.size : Int) ≤ 200) = True := eq_true (by omega)
  go_enter Tryd.func4, Tryd.ntmps4
  go_wp2_with fail
  go_loop [5, 12] (fun n i => n = .int .i64 S.size ∧ i = .int .i64 0) (fun _ _ => 0)
  case atStart => exact ⟨rfl, rfl⟩
  case round =>
    obtain ⟨rfl, rfl⟩ := hrel
    go_wp2_with fail
    refine bodyPost_ret (v := .bool false) (by simp [results, Tryd.results4, go_sem]) rfl ⟨rfl, rfl⟩

set_option maxRecDepth 100000 in
set_option maxHeartbeats 4000000 in
theorem asked_rest (S : ByteArray) (hs : S.size ≤ 2147483647) (h1 : S.size ≤ 200) (h2 : S.toList.isEmpty = false) (w : World) :
    Calls Tryd.prog 4 #[.string S, .slice none 0 0] w fun e w' => e = .returned (.bool (plainB S.data.toList)) ∧ w = w' := by
  have i1 : ((S.size : Int) ≤ 200) = True := eq_true (by omega)
  go_enter Tryd.func4, Tryd.ntmps4
  go_wp2_with fail
  go_loop [5, 12] (fun n i => n = .int .i64 S.size ∧ i = .int .i64 0) (fun _ _ => 0)
  case atStart => exact ⟨rfl, rfl⟩
  case round =>
    obtain ⟨rfl, rfl⟩ := hrel
    go_wp2_with fail
    refine (refPlain_any S (by unfold maxLen; omega) _).mono ?_
    rintro e w1 ⟨rfl, rfl⟩
    go_wp2_with fail
    refine bodyPost_ret (v := .bool (plainB S.data.toList)) (by simp [results, Tryd.results4, go_sem]) rfl ⟨rfl, rfl⟩

end Go.Proofs.YtojcadkdkinacaaDoor
