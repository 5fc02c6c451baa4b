/- errors.New; impl.operator, impl.term; ZZTerm.inner. -/
import Derived.Test.YtdlpcfhhpjjjmaaDoorVerOps
namespace Go.Proofs.YtdlpcfhhpjjjmaaDoor
open Go.RowKit
set_option linter.unusedVariables false
set_option linter.unusedSimpArgs false

set_option maxHeartbeats 400000 in
theorem errNew_any (s : ByteArray) (w : World) :
    Calls Tryd.prog 120 #[.string s] w fun e w' => (∃ t p, e = .returned (.iface t p)) ∧ w' = w.alloc (.cells #[.string s] 121) := by
  go_enter Tryd.func120, Tryd.ntmps120
  go_wp2_with fail
  go_ret
  exact ⟨⟨_, _, rfl⟩, rfl⟩

set_option maxRecDepth 100000 in
set_option maxHeartbeats 4000000 in
theorem operator_any (o : Int) (w : World) :
    Calls Tryd.prog 99 #[.int .i64 o] w fun e w' => (∃ s, e = .returned (.string s)) ∧ w = w' := by
  go_enter Tryd.func99, Tryd.ntmps99
  go_wp2
  all_goals
    go_ret
    exact ⟨⟨_, rfl⟩, rfl⟩

abbrev zzC (s : ByteArray) (k : Nat) (d m n : Bool) : Array Value := #[.string s, .pointer (some ⟨k, 0, none⟩), .bool d, .bool m, .bool n]
abbrev conC (s : ByteArray) (k : Nat) (d m n : Bool) : Array Value := #[.pointer (some ⟨k, 0, none⟩), .string ⟨#[]⟩, .string s, .bool m, .bool d, .bool n]

set_option maxHeartbeats 400000 in
theorem inner_any (s : ByteArray) (k : Nat) (d m n : Bool) (w : World) :
    Calls Tryd.prog 98 #[.agg (zzC s k d m n)] w fun e w' => e = .returned (.pointer (some ⟨w.heap.size + 1, 0, none⟩)) ∧ w' = (w.alloc (.cells (zzC s k d m n) 77)).alloc (.cells (conC s k d m n) 112) := by
  go_enter Tryd.func98, Tryd.ntmps98
  go_wp2_with fail
  go_ret
  exact ⟨by simp, rfl⟩

abbrev termC (o g a b c : Int) (p : ByteArray) : Array Value := #[.int .i64 o, .int .i64 g, .int .u64 a, .int .u64 b, .int .u64 c, .string p]

/-- A term given to the inner package: its version stands in block k. -/
def TermPost (a b c : Int) (p : ByteArray) (d m n : Bool) (w : World) (e : Ending) (w' : World) : Prop :=
  ∃ s k, e = .returned (.agg (zzC s k d m n)) ∧ VerAt w' k (verC a b c p ⟨#[]⟩ ⟨#[]⟩) ∧ w.heap.size ≤ k ∧ Below w.heap.size w w'

theorem TermAt (W : World) (cs : Array Value) (n : Nat) (hn : n = W.heap.size) (i : Nat) : (W.alloc (.cells cs 36)).cell? ⟨n, i, none⟩ = cs[i]? := by
  subst hn; exact cell_of_row _ _ i cs _ (0, 0) (heap_alloc_new W _)

set_option maxRecDepth 100000 in
set_option maxHeartbeats 8000000 in
theorem term_0 (o a b c : Int) (p : ByteArray) (w : World) :
    Calls Tryd.prog 69 #[.agg (termC o 0 a b c p)] w (TermPost a b c p true false false w) := by
  go_enter Tryd.func69, Tryd.ntmps69
  go_wp2_with fail
  go_region_held3 (fun w' => w'.cell? ⟨w.heap.size, 0, none⟩ = some (.int .i64 o) ∧ w'.cell? ⟨w.heap.size, 1, none⟩ = some (.int .i64 0) ∧ w'.cell? ⟨w.heap.size, 2, none⟩ = some (.int .u64 a) ∧ w'.cell? ⟨w.heap.size, 3, none⟩ = some (.int .u64 b) ∧ w'.cell? ⟨w.heap.size, 4, none⟩ = some (.int .u64 c) ∧ w'.cell? ⟨w.heap.size, 5, none⟩ = some (.string p)) (first | (refine ⟨?_, ?_, ?_, ?_, ?_, ?_⟩ <;> (repeat (first | exact (TermAt w _ _ rfl _).trans rfl | (with_reducible refine keepD ?_) | (with_reducible refine keepN ?_) | (with_reducible refine keepV ?_)))) | go_keep)
    (first | (go_at_call 99; refine (operator_any _ _).mono ?_; rintro e w' ⟨⟨sop, rfl⟩, rfl⟩) | (go_at_call 90; refine (zzVersion_any _ _ _ _ _ _).mono ?_; rintro e w' ⟨rfl, rfl⟩))
  go_wp2_with fail
  refine bodyPost_ret (v := .agg (zzC sop (w.heap.size + 1 + 1) true false false)) (by simp [results, Tryd.results69, go_sem]) rfl ?_
  refine ⟨sop, w.heap.size + 1 + 1, rfl, ?_, by omega, (by repeat (first | exact Below.refl _ _ | refine Below.drew ?_ | refine Below.alloc ?_ (by first | omega | (simp <;> omega)) _))⟩
  exact VerAt.drew' (verAt_last _ _ _ (by simp))

set_option maxRecDepth 100000 in
set_option maxHeartbeats 8000000 in
theorem term_1 (o a b c : Int) (p : ByteArray) (w : World) :
    Calls Tryd.prog 69 #[.agg (termC o 1 a b c p)] w (TermPost a b c p true true false w) := by
  go_enter Tryd.func69, Tryd.ntmps69
  go_wp2_with fail
  go_region_held3 (fun w' => w'.cell? ⟨w.heap.size, 0, none⟩ = some (.int .i64 o) ∧ w'.cell? ⟨w.heap.size, 1, none⟩ = some (.int .i64 1) ∧ w'.cell? ⟨w.heap.size, 2, none⟩ = some (.int .u64 a) ∧ w'.cell? ⟨w.heap.size, 3, none⟩ = some (.int .u64 b) ∧ w'.cell? ⟨w.heap.size, 4, none⟩ = some (.int .u64 c) ∧ w'.cell? ⟨w.heap.size, 5, none⟩ = some (.string p)) (first | (refine ⟨?_, ?_, ?_, ?_, ?_, ?_⟩ <;> (repeat (first | exact (TermAt w _ _ rfl _).trans rfl | (with_reducible refine keepD ?_) | (with_reducible refine keepN ?_) | (with_reducible refine keepV ?_)))) | go_keep)
    (first | (go_at_call 99; refine (operator_any _ _).mono ?_; rintro e w' ⟨⟨sop, rfl⟩, rfl⟩) | (go_at_call 90; refine (zzVersion_any _ _ _ _ _ _).mono ?_; rintro e w' ⟨rfl, rfl⟩))
  go_wp2_with fail
  refine bodyPost_ret (v := .agg (zzC sop (w.heap.size + 1 + 1) true true false)) (by simp [results, Tryd.results69, go_sem]) rfl ?_
  refine ⟨sop, w.heap.size + 1 + 1, rfl, ?_, by omega, (by repeat (first | exact Below.refl _ _ | refine Below.drew ?_ | refine Below.alloc ?_ (by first | omega | (simp <;> omega)) _))⟩
  exact VerAt.drew' (verAt_last _ _ _ (by simp))

set_option maxRecDepth 100000 in
set_option maxHeartbeats 8000000 in
theorem term_2 (o a b c : Int) (p : ByteArray) (w : World) :
    Calls Tryd.prog 69 #[.agg (termC o 2 a b c p)] w (TermPost a b c p true false true w) := by
  go_enter Tryd.func69, Tryd.ntmps69
  go_wp2_with fail
  go_region_held3 (fun w' => w'.cell? ⟨w.heap.size, 0, none⟩ = some (.int .i64 o) ∧ w'.cell? ⟨w.heap.size, 1, none⟩ = some (.int .i64 2) ∧ w'.cell? ⟨w.heap.size, 2, none⟩ = some (.int .u64 a) ∧ w'.cell? ⟨w.heap.size, 3, none⟩ = some (.int .u64 b) ∧ w'.cell? ⟨w.heap.size, 4, none⟩ = some (.int .u64 c) ∧ w'.cell? ⟨w.heap.size, 5, none⟩ = some (.string p)) (first | (refine ⟨?_, ?_, ?_, ?_, ?_, ?_⟩ <;> (repeat (first | exact (TermAt w _ _ rfl _).trans rfl | (with_reducible refine keepD ?_) | (with_reducible refine keepN ?_) | (with_reducible refine keepV ?_)))) | go_keep)
    (first | (go_at_call 99; refine (operator_any _ _).mono ?_; rintro e w' ⟨⟨sop, rfl⟩, rfl⟩) | (go_at_call 90; refine (zzVersion_any _ _ _ _ _ _).mono ?_; rintro e w' ⟨rfl, rfl⟩))
  go_wp2_with fail
  refine bodyPost_ret (v := .agg (zzC sop (w.heap.size + 1 + 1) true false true)) (by simp [results, Tryd.results69, go_sem]) rfl ?_
  refine ⟨sop, w.heap.size + 1 + 1, rfl, ?_, by omega, (by repeat (first | exact Below.refl _ _ | refine Below.drew ?_ | refine Below.alloc ?_ (by first | omega | (simp <;> omega)) _))⟩
  exact VerAt.drew' (verAt_last _ _ _ (by simp))

set_option maxRecDepth 100000 in
set_option maxHeartbeats 8000000 in
theorem term_3 (o a b c : Int) (p : ByteArray) (w : World) :
    Calls Tryd.prog 69 #[.agg (termC o 3 a b c p)] w (TermPost a b c p false false false w) := by
  go_enter Tryd.func69, Tryd.ntmps69
  go_wp2_with fail
  go_region_held3 (fun w' => w'.cell? ⟨w.heap.size, 0, none⟩ = some (.int .i64 o) ∧ w'.cell? ⟨w.heap.size, 1, none⟩ = some (.int .i64 3) ∧ w'.cell? ⟨w.heap.size, 2, none⟩ = some (.int .u64 a) ∧ w'.cell? ⟨w.heap.size, 3, none⟩ = some (.int .u64 b) ∧ w'.cell? ⟨w.heap.size, 4, none⟩ = some (.int .u64 c) ∧ w'.cell? ⟨w.heap.size, 5, none⟩ = some (.string p)) (first | (refine ⟨?_, ?_, ?_, ?_, ?_, ?_⟩ <;> (repeat (first | exact (TermAt w _ _ rfl _).trans rfl | (with_reducible refine keepD ?_) | (with_reducible refine keepN ?_) | (with_reducible refine keepV ?_)))) | go_keep)
    (first | (go_at_call 99; refine (operator_any _ _).mono ?_; rintro e w' ⟨⟨sop, rfl⟩, rfl⟩) | (go_at_call 90; refine (zzVersion_any _ _ _ _ _ _).mono ?_; rintro e w' ⟨rfl, rfl⟩))
  go_wp2_with fail
  refine bodyPost_ret (v := .agg (zzC sop (w.heap.size + 1 + 1) false false false)) (by simp [results, Tryd.results69, go_sem]) rfl ?_
  refine ⟨sop, w.heap.size + 1 + 1, rfl, ?_, by omega, (by repeat (first | exact Below.refl _ _ | refine Below.drew ?_ | refine Below.alloc ?_ (by first | omega | (simp <;> omega)) _))⟩
  exact VerAt.drew' (verAt_last _ _ _ (by simp))

end Go.Proofs.YtdlpcfhhpjjjmaaDoor
