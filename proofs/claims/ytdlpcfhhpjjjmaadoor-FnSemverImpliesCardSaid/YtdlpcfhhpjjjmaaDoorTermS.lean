/- impl.term with its operator's text. -/
import Derived.Test.YtdlpcfhhpjjjmaaDoorTerm
namespace Go.Proofs.YtdlpcfhhpjjjmaaDoor
open Go.RowKit
set_option linter.unusedVariables false
set_option linter.unusedSimpArgs false

/-- impl.operator gives the text s. -/
def OpIs (o : Int) (s : ByteArray) : Prop := ∀ W : World, Calls Tryd.prog 99 #[.int .i64 o] W fun e w' => e = .returned (.string s) ∧ W = w'
def TermPostS (s : ByteArray) (a b c : Int) (p : ByteArray) (d m n : Bool) (w : World) (e : Ending) (w' : World) : Prop :=
  ∃ k, e = .returned (.agg (zzC s k d m n)) ∧ VerAt w' k (verC a b c p ⟨#[]⟩ ⟨#[]⟩) ∧ w.heap.size ≤ k ∧ Below w.heap.size w w'

set_option maxRecDepth 100000 in
set_option maxHeartbeats 8000000 in
theorem termS_0 (o a b c : Int) (p : ByteArray) (w : World) (s : ByteArray) (hs : Hid (OpIs o s)) :
    Calls Tryd.prog 69 #[.agg (termC o 0 a b c p)] w (TermPostS s a b c p true false false w) := by
  go_enter Tryd.func69, Tryd.ntmps69
  go_wp2_with fail
  go_region_held3 (fun w' => w'.cell? ⟨w.heap.size, 0, none⟩ = some (.int .i64 o) ∧ w'.cell? ⟨w.heap.size, 1, none⟩ = some (.int .i64 0) ∧ w'.cell? ⟨w.heap.size, 2, none⟩ = some (.int .u64 a) ∧ w'.cell? ⟨w.heap.size, 3, none⟩ = some (.int .u64 b) ∧ w'.cell? ⟨w.heap.size, 4, none⟩ = some (.int .u64 c) ∧ w'.cell? ⟨w.heap.size, 5, none⟩ = some (.string p)) (first | (refine ⟨?_, ?_, ?_, ?_, ?_, ?_⟩ <;> (repeat (first | exact (TermAt w _ _ rfl _).trans rfl | (with_reducible refine keepD ?_) | (with_reducible refine keepN ?_) | (with_reducible refine keepV ?_)))) | go_keep)
    (first | (go_at_call 99; refine (hs.out _).mono ?_; rintro e w' ⟨rfl, rfl⟩) | (go_at_call 90; refine (zzVersion_any _ _ _ _ _ _).mono ?_; rintro e w' ⟨rfl, rfl⟩))
  go_wp2_with fail
  refine bodyPost_ret (v := .agg (zzC s (w.heap.size + 1 + 1) true false false)) (by simp [results, Tryd.results69, go_sem]) rfl ?_
  refine ⟨w.heap.size + 1 + 1, rfl, ?_, by omega, (by repeat (first | exact Below.refl _ _ | refine Below.drew ?_ | refine Below.alloc ?_ (by first | omega | (simp <;> omega)) _))⟩
  exact VerAt.drew' (verAt_last _ _ _ (by simp))

set_option maxRecDepth 100000 in
set_option maxHeartbeats 8000000 in
theorem termS_1 (o a b c : Int) (p : ByteArray) (w : World) (s : ByteArray) (hs : Hid (OpIs o s)) :
    Calls Tryd.prog 69 #[.agg (termC o 1 a b c p)] w (TermPostS s a b c p true true false w) := by
  go_enter Tryd.func69, Tryd.ntmps69
  go_wp2_with fail
  go_region_held3 (fun w' => w'.cell? ⟨w.heap.size, 0, none⟩ = some (.int .i64 o) ∧ w'.cell? ⟨w.heap.size, 1, none⟩ = some (.int .i64 1) ∧ w'.cell? ⟨w.heap.size, 2, none⟩ = some (.int .u64 a) ∧ w'.cell? ⟨w.heap.size, 3, none⟩ = some (.int .u64 b) ∧ w'.cell? ⟨w.heap.size, 4, none⟩ = some (.int .u64 c) ∧ w'.cell? ⟨w.heap.size, 5, none⟩ = some (.string p)) (first | (refine ⟨?_, ?_, ?_, ?_, ?_, ?_⟩ <;> (repeat (first | exact (TermAt w _ _ rfl _).trans rfl | (with_reducible refine keepD ?_) | (with_reducible refine keepN ?_) | (with_reducible refine keepV ?_)))) | go_keep)
    (first | (go_at_call 99; refine (hs.out _).mono ?_; rintro e w' ⟨rfl, rfl⟩) | (go_at_call 90; refine (zzVersion_any _ _ _ _ _ _).mono ?_; rintro e w' ⟨rfl, rfl⟩))
  go_wp2_with fail
  refine bodyPost_ret (v := .agg (zzC s (w.heap.size + 1 + 1) true true false)) (by simp [results, Tryd.results69, go_sem]) rfl ?_
  refine ⟨w.heap.size + 1 + 1, rfl, ?_, by omega, (by repeat (first | exact Below.refl _ _ | refine Below.drew ?_ | refine Below.alloc ?_ (by first | omega | (simp <;> omega)) _))⟩
  exact VerAt.drew' (verAt_last _ _ _ (by simp))

set_option maxRecDepth 100000 in
set_option maxHeartbeats 8000000 in
theorem termS_2 (o a b c : Int) (p : ByteArray) (w : World) (s : ByteArray) (hs : Hid (OpIs o s)) :
    Calls Tryd.prog 69 #[.agg (termC o 2 a b c p)] w (TermPostS s a b c p true false true w) := by
  go_enter Tryd.func69, Tryd.ntmps69
  go_wp2_with fail
  go_region_held3 (fun w' => w'.cell? ⟨w.heap.size, 0, none⟩ = some (.int .i64 o) ∧ w'.cell? ⟨w.heap.size, 1, none⟩ = some (.int .i64 2) ∧ w'.cell? ⟨w.heap.size, 2, none⟩ = some (.int .u64 a) ∧ w'.cell? ⟨w.heap.size, 3, none⟩ = some (.int .u64 b) ∧ w'.cell? ⟨w.heap.size, 4, none⟩ = some (.int .u64 c) ∧ w'.cell? ⟨w.heap.size, 5, none⟩ = some (.string p)) (first | (refine ⟨?_, ?_, ?_, ?_, ?_, ?_⟩ <;> (repeat (first | exact (TermAt w _ _ rfl _).trans rfl | (with_reducible refine keepD ?_) | (with_reducible refine keepN ?_) | (with_reducible refine keepV ?_)))) | go_keep)
    (first | (go_at_call 99; refine (hs.out _).mono ?_; rintro e w' ⟨rfl, rfl⟩) | (go_at_call 90; refine (zzVersion_any _ _ _ _ _ _).mono ?_; rintro e w' ⟨rfl, rfl⟩))
  go_wp2_with fail
  refine bodyPost_ret (v := .agg (zzC s (w.heap.size + 1 + 1) true false true)) (by simp [results, Tryd.results69, go_sem]) rfl ?_
  refine ⟨w.heap.size + 1 + 1, rfl, ?_, by omega, (by repeat (first | exact Below.refl _ _ | refine Below.drew ?_ | refine Below.alloc ?_ (by first | omega | (simp <;> omega)) _))⟩
  exact VerAt.drew' (verAt_last _ _ _ (by simp))

set_option maxRecDepth 100000 in
set_option maxHeartbeats 8000000 in
theorem termS_3 (o a b c : Int) (p : ByteArray) (w : World) (s : ByteArray) (hs : Hid (OpIs o s)) :
    Calls Tryd.prog 69 #[.agg (termC o 3 a b c p)] w (TermPostS s a b c p false false false w) := by
  go_enter Tryd.func69, Tryd.ntmps69
  go_wp2_with fail
  go_region_held3 (fun w' => w'.cell? ⟨w.heap.size, 0, none⟩ = some (.int .i64 o) ∧ w'.cell? ⟨w.heap.size, 1, none⟩ = some (.int .i64 3) ∧ w'.cell? ⟨w.heap.size, 2, none⟩ = some (.int .u64 a) ∧ w'.cell? ⟨w.heap.size, 3, none⟩ = some (.int .u64 b) ∧ w'.cell? ⟨w.heap.size, 4, none⟩ = some (.int .u64 c) ∧ w'.cell? ⟨w.heap.size, 5, none⟩ = some (.string p)) (first | (refine ⟨?_, ?_, ?_, ?_, ?_, ?_⟩ <;> (repeat (first | exact (TermAt w _ _ rfl _).trans rfl | (with_reducible refine keepD ?_) | (with_reducible refine keepN ?_) | (with_reducible refine keepV ?_)))) | go_keep)
    (first | (go_at_call 99; refine (hs.out _).mono ?_; rintro e w' ⟨rfl, rfl⟩) | (go_at_call 90; refine (zzVersion_any _ _ _ _ _ _).mono ?_; rintro e w' ⟨rfl, rfl⟩))
  go_wp2_with fail
  refine bodyPost_ret (v := .agg (zzC s (w.heap.size + 1 + 1) false false false)) (by simp [results, Tryd.results69, go_sem]) rfl ?_
  refine ⟨w.heap.size + 1 + 1, rfl, ?_, by omega, (by repeat (first | exact Below.refl _ _ | refine Below.drew ?_ | refine Below.alloc ?_ (by first | omega | (simp <;> omega)) _))⟩
  exact VerAt.drew' (verAt_last _ _ _ (by simp))

end Go.Proofs.YtdlpcfhhpjjjmaaDoor
