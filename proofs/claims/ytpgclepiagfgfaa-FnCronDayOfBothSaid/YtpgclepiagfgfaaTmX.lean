/- Functions of pub/gotime that make a time in UTC. -/
import Derived.Test.YtpgclepiagfgfaaTmW
import Derived.Test.YtpgclepiagfgfaaPCalC
namespace Go.Proofs.Ytpgclepiagfgfaa
open Go.RowKit
set_option linter.unusedVariables false
set_option linter.unusedSimpArgs false

theorem ret_agg {a b : Array Value} (h : a = b) : Ending.returned (.agg a) = .returned (.agg b) := by rw [h]

set_option maxHeartbeats 400000 in
theorem setLoc_any (g ns u : Nat) (ext : Int) (hn : ns < 1000000000) (w : World) (h : TmAt w g ns ext) (hu : UtcAt w u) :
    Calls Try.prog 70 #[.pointer (some ⟨g, 0, none⟩), .pointer (some ⟨u, 0, none⟩)] w fun e w' => e = .returned (.tuple #[]) ∧ w' = w.setCell ⟨g, 2, none⟩ (.pointer none) := by
  have c0 : w.cell? ⟨g, 0, none⟩ = some (.int .u64 ns) := h.cell 0
  have c1 : w.cell? ⟨g, 1, none⟩ = some (.int .i64 ext) := h.cell 1
  have c2 : w.cell? ⟨g, 2, none⟩ = some (.pointer none) := h.cell 2
  have f0 := h.free 0
  have f1 := h.free 1
  have f2 := h.free 2
  have u0 : w.cell? ⟨u, 0, none⟩ = some (.bool true) := hu.cell 0
  have HH := Lib.hid h
  clear h hu
  go_enter Try.func70, Try.ntmps70
  go_wp2_with fail
  refine (stripMono_any g ns ext hn _ HH.out).mono ?_
  rintro e w1 ⟨rfl, rfl⟩
  go_wp2_with fail
  go_end0
  exact ⟨rfl, rfl⟩

set_option maxHeartbeats 400000 in
theorem addSec_any (g ns : Nat) (ext d : Int) (hn : ns < 1000000000) (he : 0 ≤ ext) (he2 : ext < 1000000000000) (hd : -1000000000000 < d) (hd2 : d < 1000000000000) (w : World) (h : TmAt w g ns ext) :
    Calls Try.prog 122 #[.pointer (some ⟨g, 0, none⟩), .int .i64 d] w fun e w' => e = .returned (.tuple #[]) ∧ w' = w.setCell ⟨g, 1, none⟩ (.int .i64 (ext + d)) := by
  have c0 : w.cell? ⟨g, 0, none⟩ = some (.int .u64 ns) := h.cell 0
  have c1 : w.cell? ⟨g, 1, none⟩ = some (.int .i64 ext) := h.cell 1
  have c2 : w.cell? ⟨g, 2, none⟩ = some (.pointer none) := h.cell 2
  have f0 := h.free 0
  have f1 := h.free 1
  have f2 := h.free 2
  have A := and_hi ns (by omega)
  clear h
  by_cases hp : 0 < d
  · have hx : (ext < ext + d) = True := eq_true (by omega)
    go_enter Try.func122, Try.ntmps122
    go_wp2_with fail
    go_end0
    exact ⟨rfl, rfl⟩
  · have hx : (ext < ext + d) = False := eq_false (by omega)
    go_enter Try.func122, Try.ntmps122
    go_wp2_with fail
    go_end0
    exact ⟨rfl, rfl⟩

set_option maxHeartbeats 400000 in
theorem normIn_any (hi lo b : Int) (h0 : 0 ≤ lo) (h1 : lo < b) (h2 : b ≤ 1000000000) (w : World) :
    Calls Try.prog 126 #[.int .i64 hi, .int .i64 lo, .int .i64 b] w fun e w' => e = .returned (.tuple #[.int .i64 hi, .int .i64 lo]) ∧ w = w' := by
  go_enter Try.func126, Try.ntmps126
  go_wp2_with fail
  go_ret2
  exact ⟨rfl, rfl⟩

set_option maxHeartbeats 400000 in
theorem norm12_any (hi : Int) (h0 : 0 ≤ hi) (h1 : hi ≤ 1000000) (w : World) :
    Calls Try.prog 126 #[.int .i64 hi, .int .i64 12, .int .i64 12] w fun e w' => e = .returned (.tuple #[.int .i64 (hi + 1), .int .i64 0]) ∧ w = w' := by
  go_enter Try.func126, Try.ntmps126
  go_wp2_with fail
  go_ret2
  exact ⟨rfl, rfl⟩

set_option maxHeartbeats 400000 in
theorem toAbs_any (y m d : Int) (y0 : 1 ≤ y) (y1 : y ≤ 100000) (m1 : 1 ≤ m) (m2 : m ≤ 12) (d1 : 1 ≤ d) (d2 : d ≤ 32) (w : World) :
    Calls Try.prog 127 #[.int .i64 y, .int .i64 m, .int .i64 d] w fun e w' => e = .returned (.int .u64 (dayNo y m d + 106751991073400)) ∧ w = w' := by
  by_cases hm : m < 3
  all_goals
    go_enter Try.func127, Try.ntmps127
    go_wp2_with fail
    go_ret
    exact ⟨ret_u64 (by first | (have a := abs_of y (by omega) y1 1 (Or.inr rfl); have b := absDay_eq y m d 1 m1 m2 (Or.inl ⟨hm, rfl⟩); have c := shr5 (m + 12) (by omega) (by omega); omega) | (have a := abs_of y (by omega) y1 0 (Or.inl rfl); have b := absDay_eq y m d 0 m1 m2 (Or.inr ⟨by omega, rfl⟩); have c := shr5 m (by omega) (by omega); simp only [Int.sub_zero, Int.mul_zero, Int.add_zero] at a b; omega)), rfl⟩

set_option maxRecDepth 100000 in
set_option maxHeartbeats 400000 in
theorem lookup_any (u : Nat) (sec : Int) (w : World) (hu : UtcAt w u) :
    Calls Try.prog 91 #[.pointer (some ⟨u, 0, none⟩), .int .i64 sec] w fun e w' => e = .returned (.tuple #[.string ⟨#[85, 84, 67]⟩, .int .i64 0, .int .i64 (-9223372036854775808), .int .i64 9223372036854775807, .bool false]) ∧ w = w' := by
  have u2 : w.cell? ⟨u, 2, none⟩ = some (.slice none 0 0) := hu.cell 2
  clear hu
  go_enter Try.func91, Try.ntmps91
  go_wp2_with fail
  refine (getSome_any _ _).mono ?_
  rintro e w1 ⟨rfl, rfl⟩
  go_wp2_with fail
  refine bodyPost_ret (v := .tuple #[.string ⟨#[85, 84, 67]⟩, .int .i64 0, .int .i64 (-9223372036854775808), .int .i64 9223372036854775807, .bool false]) (by simp [results, Try.results91, go_sem]) rfl ⟨rfl, rfl⟩

set_option maxHeartbeats 400000 in
theorem unixTime_any (ns : Nat) (sec : Int) (hn : ns < 1000000000) (h0 : -1000000000000 < sec) (h1 : sec < 1000000000000) (w : World) :
    Calls Try.prog 69 #[.int .i64 sec, .int .i32 ns] w fun e w' => e = .returned (.agg #[.int .u64 ns, .int .i64 (sec + 62135596800), .pointer none]) ∧ Below w.heap.size w w' := by
  go_enter Try.func69, Try.ntmps69
  go_wp2_with fail
  refine bodyPost_ret (v := .agg #[.int .u64 ns, .int .i64 (sec + 62135596800), .pointer none]) (by simp [results, Try.results69, go_sem]) rfl ⟨rfl, (by repeat (first | (with_reducible assumption) | (with_reducible exact Below.refl _ _) | (with_reducible refine Below.setCell ?_ (by first | omega | (simp <;> omega)) _) | refine below_drewN ?_ _ | refine Below.drew ?_ | refine Below.alloc ?_ (by first | omega | (simp <;> omega)) _))⟩

end Go.Proofs.Ytpgclepiagfgfaa
