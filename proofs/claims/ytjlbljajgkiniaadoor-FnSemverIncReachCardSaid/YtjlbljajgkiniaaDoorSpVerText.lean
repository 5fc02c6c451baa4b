/- spec.VersionText and spec.Fits of a version: its text. -/
import Derived.Test.YtjlbljajgkiniaaDoorVerText
import Derived.Test.YtjlbljajgkiniaaDoorDecimal
import Derived.Test.YtjlbljajgkiniaaDoorSvGoods
namespace Go.Proofs.YtjlbljajgkiniaaDoor
open Go.RowKit
set_option linter.unusedVariables false
set_option linter.unusedSimpArgs false

theorem decimal_int (x : Int) (h0 : 0 ≤ x) (h1 : x < 18446744073709551616) (w : World) :
    Calls Tryd.prog 27 #[.int .u64 x] w fun e w' => e = .returned (.string (decB x)) ∧ Below w.heap.size w w' := by
  obtain ⟨n, rfl⟩ : ∃ n : Nat, x = n := ⟨x.toNat, by omega⟩
  exact decimal_any n (by omega) w

set_option maxRecDepth 100000 in
set_option maxHeartbeats 4000000 in
theorem spText_any (a b c : Int) (p m : ByteArray) (a0 : 0 ≤ a) (a1 : a < 18446744073709551616) (b0 : 0 ≤ b) (b1 : b < 18446744073709551616) (c0' : 0 ≤ c) (c1' : c < 18446744073709551616) (hp : p.size ≤ 2147483647) (hm : m.size ≤ 2147483647) (w : World) :
    Calls Tryd.prog 11 #[.agg (plainC a b c p m)] w (fun e w' => e = .returned (.string (textB a b c p m)) ∧ Below w.heap.size w w') := by
  have sa := decB_size a a0 a1
  have sb := decB_size b b0 b1
  have sc := decB_size c c0' c1'
  have s1 : (⟨#[46]⟩ : ByteArray).size = 1 := rfl
  have s2 : (⟨#[45]⟩ : ByteArray).size = 1 := rfl
  have s3 : (⟨#[43]⟩ : ByteArray).size = 1 := rfl
  have r1 := run_cat (decB a) ⟨#[46]⟩ (by omega)
  have r2 := run_cat (decB a ++ ⟨#[46]⟩) (decB b) (by rw [ByteArray.size_append]; omega)
  have r3 := run_cat (decB a ++ ⟨#[46]⟩ ++ decB b) ⟨#[46]⟩ (by rw [ByteArray.size_append, ByteArray.size_append]; omega)
  have r4 := run_cat (decB a ++ ⟨#[46]⟩ ++ decB b ++ ⟨#[46]⟩) (decB c) (by rw [ByteArray.size_append, ByteArray.size_append, ByteArray.size_append]; omega)
  have r5 := run_cat ⟨#[45]⟩ p (by omega)
  have r6 := run_cat ⟨#[43]⟩ m (by omega)
  have r7 := run_cat (decB a ++ ⟨#[46]⟩ ++ decB b ++ ⟨#[46]⟩ ++ decB c) (⟨#[45]⟩ ++ p) (by simp only [ByteArray.size_append]; omega)
  have r8 := run_cat (decB a ++ ⟨#[46]⟩ ++ decB b ++ ⟨#[46]⟩ ++ decB c) (⟨#[43]⟩ ++ m) (by simp only [ByteArray.size_append]; omega)
  have r9 := run_cat (decB a ++ ⟨#[46]⟩ ++ decB b ++ ⟨#[46]⟩ ++ decB c ++ (⟨#[45]⟩ ++ p)) (⟨#[43]⟩ ++ m) (by simp only [ByteArray.size_append]; omega)
  clear sa sb sc s1 s2 s3 hp hm
  cases h1 : p.toList.isEmpty
  all_goals cases h2 : m.toList.isEmpty
  all_goals
    have H1 := Lib.hid h1
    have H2 := Lib.hid h2
    (try (have k1 : p.toList = [] := by simpa using h1); clear h1)
    (try (have k2 : m.toList = [] := by simpa using h2); clear h2)
    go_enter Tryd.func11, Tryd.ntmps11
    go_wp2_with fail
    have c0 : (w.alloc (.cells (plainC a b c p m) 24)).cell? ⟨w.heap.size, 0, none⟩ = some (.int .u64 a) := (plainAt_last _ _ _ rfl).cell 0
    have c1 : (w.alloc (.cells (plainC a b c p m) 24)).cell? ⟨w.heap.size, 1, none⟩ = some (.int .u64 b) := (plainAt_last _ _ _ rfl).cell 1
    have c2 : (w.alloc (.cells (plainC a b c p m) 24)).cell? ⟨w.heap.size, 2, none⟩ = some (.int .u64 c) := (plainAt_last _ _ _ rfl).cell 2
    have c3 : (w.alloc (.cells (plainC a b c p m) 24)).cell? ⟨w.heap.size, 3, none⟩ = some (.string p) := (plainAt_last _ _ _ rfl).cell 3
    have c4 : (w.alloc (.cells (plainC a b c p m) 24)).cell? ⟨w.heap.size, 4, none⟩ = some (.string m) := (plainAt_last _ _ _ rfl).cell 4
    go_region_held3 (fun w' => w'.cell? ⟨w.heap.size, 0, none⟩ = some (.int .u64 a) ∧ w'.cell? ⟨w.heap.size, 1, none⟩ = some (.int .u64 b) ∧ w'.cell? ⟨w.heap.size, 2, none⟩ = some (.int .u64 c) ∧ w'.cell? ⟨w.heap.size, 3, none⟩ = some (.string p) ∧ w'.cell? ⟨w.heap.size, 4, none⟩ = some (.string m)) (first | (refine ⟨?_, ?_, ?_, ?_, ?_⟩ <;> (repeat (first | assumption | (with_reducible refine keepD ?_) | (with_reducible refine keepN ?_) | (with_reducible refine keepV ?_)))) | go_keep)
      (first | (go_at_call 27; refine (decimal_int _ (by assumption) (by assumption) _).mono ?_; rintro e w' ⟨rfl, hb⟩; have c0 : w'.cell? ⟨w.heap.size, 0, none⟩ = some (.int .u64 a) := (by refine keepB hb (by first | omega | (simp <;> omega)) ?_; (repeat (first | assumption | (with_reducible refine keepD ?_) | (with_reducible refine keepN ?_) | (with_reducible refine keepV ?_)))); have c1 : w'.cell? ⟨w.heap.size, 1, none⟩ = some (.int .u64 b) := (by refine keepB hb (by first | omega | (simp <;> omega)) ?_; (repeat (first | assumption | (with_reducible refine keepD ?_) | (with_reducible refine keepN ?_) | (with_reducible refine keepV ?_)))); have c2 : w'.cell? ⟨w.heap.size, 2, none⟩ = some (.int .u64 c) := (by refine keepB hb (by first | omega | (simp <;> omega)) ?_; (repeat (first | assumption | (with_reducible refine keepD ?_) | (with_reducible refine keepN ?_) | (with_reducible refine keepV ?_)))); have c3 : w'.cell? ⟨w.heap.size, 3, none⟩ = some (.string p) := (by refine keepB hb (by first | omega | (simp <;> omega)) ?_; (repeat (first | assumption | (with_reducible refine keepD ?_) | (with_reducible refine keepN ?_) | (with_reducible refine keepV ?_)))); have c4 : w'.cell? ⟨w.heap.size, 4, none⟩ = some (.string m) := (by refine keepB hb (by first | omega | (simp <;> omega)) ?_; (repeat (first | assumption | (with_reducible refine keepD ?_) | (with_reducible refine keepN ?_) | (with_reducible refine keepV ?_)))); have bk : Below w.heap.size w w' := Below.trans (by repeat (first | assumption | exact Below.refl _ _ | refine below_drewN ?_ _ | refine Below.drew ?_ | refine Below.alloc ?_ (by first | omega | (simp <;> omega)) _)) (hb.mono (by first | omega | (simp <;> omega))); have nk : w.heap.size + 1 ≤ w'.heap.size := (by have := hb.size; first | omega | (simp at this; omega))))
    go_wp2_with fail
    go_ret
    exact ⟨ret_string (by unfold textB; rw [H1.out, H2.out]; rfl), bk⟩
end Go.Proofs.YtjlbljajgkiniaaDoor
