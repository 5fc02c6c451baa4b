/- What pub/gotime shows of a time in UTC: year, month, day, hour, minute, second. -/
import Derived.Test.YtpgclepiagfgfaaTmU
import Derived.Test.YtpgclepiagfgfaaPCalB
namespace Go.Proofs.Ytpgclepiagfgfaa
open Go.RowKit
set_option linter.unusedVariables false
set_option linter.unusedSimpArgs false

theorem ret_tup {a b : Array Value} (h : a = b) : Ending.returned (.tuple a) = .returned (.tuple b) := by rw [h]
theorem ret_eq {a b : Value} (h : a = b) : Ending.returned a = .returned b := by rw [h]
theorem i64_eq {a b : Int} (h : a = b) : Value.int .i64 a = .int .i64 b := by rw [h]
theorem u64_eq {a b : Int} (h : a = b) : Value.int .u64 a = .int .u64 b := by rw [h]
theorem tup2 {a b a' b' : Value} (h : a = a') (k : b = b') : Ending.returned (.tuple #[a, b]) = .returned (.tuple #[a', b']) := by rw [h, k]
theorem tup3 {a b c a' b' c' : Value} (h : a = a') (k : b = b') (l : c = c') : Ending.returned (.tuple #[a, b, c]) = .returned (.tuple #[a', b', c']) := by rw [h, k, l]

set_option maxHeartbeats 400000 in
theorem absSec_any (ns : Nat) (ext : Int) (hn : ns < 1000000000) (he : 0 ≤ ext) (he2 : ext < 1000000000000) (w : World) :
    Calls Try.prog 82 #[.agg #[.int .u64 ns, .int .i64 ext, .pointer none]] w fun e w' => e = .returned (.int .u64 (ext + 9223371966606163200)) ∧ Below w.heap.size w w' := by
  go_enter Try.func82, Try.ntmps82
  go_wp2_with fail
  refine (getNil_any _).mono ?_
  rintro e w1 ⟨rfl, rfl⟩
  go_wp2_with fail
  refine (unixSec_any _ ns ext hn he he2 _ ((rowAt_last w _ _ _ rfl).alloc _)).mono ?_
  rintro e w2 ⟨rfl, rfl⟩
  go_wp2_with fail
  go_ret
  exact ⟨ret_u64 (by rw [IntKind.wrap_u64]; unfold wrap64; omega), (by repeat (first | (with_reducible assumption) | (with_reducible exact Below.refl _ _) | (with_reducible refine Below.setCell ?_ (by first | omega | (simp <;> omega)) _) | refine below_drewN ?_ _ | refine Below.drew ?_ | refine Below.alloc ?_ (by first | omega | (simp <;> omega)) _))⟩

set_option maxHeartbeats 400000 in
theorem days_any (a : Int) (h : 0 ≤ a) (h2 : a < 18446744073709551616) (w : World) :
    Calls Try.prog 83 #[.int .u64 a] w fun e w' => e = .returned (.int .u64 (a / 86400)) ∧ w = w' := by
  go_enter Try.func83, Try.ntmps83
  go_wp2_with fail
  go_ret
  exact ⟨rfl, rfl⟩

set_option maxHeartbeats 400000 in
theorem mul32_any (x y : Int) (hx : 0 ≤ x) (hy : 0 ≤ y) (hx2 : x < 4294967296) (hy2 : y < 4294967296) (w : World) (hm : IntKind.u64.wrap (x * y) = x * y) (hp : 0 ≤ x * y) (hp2 : x * y < 18446744073709551616) :
    Calls Try.prog 92 #[.int .u32 x, .int .u32 y] w fun e w' => e = .returned (.tuple #[.int .u32 (x * y / 4294967296), .int .u32 (x * y % 4294967296)]) ∧ w = w' := by
  go_enter Try.func92, Try.ntmps92
  go_wp2_with fail
  have b : 0 ≤ x * y / 4294967296 ∧ x * y / 4294967296 < 4294967296 := by omega
  go_ret2
  exact ⟨tup2 (by first | rfl | (congr 1; omega)) rfl, rfl⟩

set_option maxHeartbeats 400000 in
theorem janFeb_any (n : Int) (w : World) :
    Calls Try.prog 123 #[.int .i64 (marchA n)] w fun e w' => e = .returned (.int .i64 (janFeb n)) ∧ w = w' := by
  unfold janFeb
  generalize marchA n = a
  by_cases h : 306 ≤ a
  all_goals
    go_enter Try.func123, Try.ntmps123
    go_wp2_with fail
    go_ret
    exact ⟨by simp [h], rfl⟩

set_option maxHeartbeats 400000 in
theorem split_any (n : Int) (h0 : -719162 ≤ n) (h1 : n < 100000000) (w : World) :
    Calls Try.prog 84 #[.int .u64 (n + 106751991073400)] w fun e w' => e = .returned (.tuple #[.int .u64 (marchC n + 2922770224), .int .i64 (marchQ n), .int .i64 (marchA n)]) ∧ w = w' := by
  have hC := abs_century n
  have hb := march_bd n
  have hO : bits .or .u32 ((4 * (n + 106751991073400) + 3) % 146097) 3 = 4 * marchR n + 3 := by
    rw [or3 _ (by omega) (by omega), hC.2]; unfold marchR; omega
  have hK := cut1461 (marchR n) (by omega) (by omega)
  have HC := Lib.hid hC
  have HK := Lib.hid hK
  clear hC hK
  have r0 : 0 ≤ marchR n := hb.1
  have r1 : marchR n ≤ 36524 := hb.2.1
  have HB := Lib.hid hb
  clear hb
  go_enter Try.func84, Try.ntmps84
  go_wp2_with fail
  refine (mul32_any 2939745 (4 * marchR n + 3) (by omega) (by omega) (by omega) (by omega) _ (by rw [IntKind.wrap_u64]; omega) (by omega) (by omega)).mono ?_
  rintro e w1 ⟨rfl, rfl⟩
  rw [HK.out.1]
  obtain ⟨l, hl, hl2⟩ : ∃ l : Int, 2939745 * (4 * marchR n + 3) % 4294967296 = l ∧ 0 ≤ l ∧ l < 4294967296 := ⟨_, rfl, by omega, by omega⟩
  have HL := Lib.hid (show l / 2939745 / 4 = (4 * marchR n + 3) % 1461 / 4 by rw [← hl]; exact HK.out.2)
  rw [hl]
  clear hl
  have q0 : 0 ≤ (4 * marchR n + 3) / 1461 ∧ (4 * marchR n + 3) / 1461 < 100 := by omega
  go_wp2_with fail
  go_ret3
  exact ⟨tup3 (u64_eq HC.out.1) (i64_eq rfl) (i64_eq HL.out), rfl⟩

set_option maxHeartbeats 400000 in
theorem ysplit_any (a : Int) (h0 : 0 ≤ a) (h : a ≤ 365) (w : World) :
    Calls Try.prog 85 #[.int .i64 a] w fun e w' => e = .returned (.tuple #[.int .i64 ((5 * a + 461) / 153), .int .i64 ((5 * a + 461) % 153 / 5 + 1)]) ∧ w = w' := by
  have hA := and16 (2141 * a + 197913) (by omega) (by omega)
  have HK := Lib.hid (cut153 a h0 h)
  go_enter Try.func85, Try.ntmps85
  go_wp2_with fail
  go_ret2
  exact ⟨tup2 (i64_eq HK.out.1) (i64_eq (by have := HK.out.2; omega)), rfl⟩

set_option maxHeartbeats 400000 in
theorem year_any (n : Int) (h0 : -719162 ≤ n) (h1 : n < 100000000) (w : World) :
    Calls Try.prog 124 #[.int .u64 (marchC n + 2922770224), .int .i64 (marchQ n), .int .i64 (janFeb n)] w fun e w' => e = .returned (.int .i64 (yearOf n)) ∧ w = w' := by
  have hc := marchC_bd n h0 h1
  have hb := march_bd n
  have hj : 0 ≤ janFeb n ∧ janFeb n ≤ 1 := by unfold janFeb; split <;> omega
  go_enter Try.func124, Try.ntmps124
  go_wp2_with fail
  go_ret
  exact ⟨ret_i64 (by unfold yearOf; omega), rfl⟩

set_option maxHeartbeats 400000 in
theorem month_any (a j : Int) (h0 : 0 ≤ a) (h1 : a ≤ 100) (j0 : 0 ≤ j) (j1 : j ≤ 1) (w : World) :
    Calls Try.prog 125 #[.int .i64 a, .int .i64 j] w fun e w' => e = .returned (.int .i64 (a - 12 * j)) ∧ w = w' := by
  go_enter Try.func125, Try.ntmps125
  go_wp2_with fail
  go_ret
  exact ⟨ret_i64 (by omega), rfl⟩

set_option maxHeartbeats 400000 in
theorem weekday_any (a : Int) (h : 0 ≤ a) (h2 : a < 1000000000000000) (w : World) :
    Calls Try.prog 86 #[.int .u64 a] w fun e w' => e = .returned (.int .i64 ((a + 3) % 7)) ∧ w = w' := by
  go_enter Try.func86, Try.ntmps86
  go_wp2_with fail
  go_ret
  exact ⟨rfl, rfl⟩

set_option maxHeartbeats 400000 in
theorem clock_any (a : Int) (h : 0 ≤ a) (h2 : a < 18446744073709551616) (w : World) :
    Calls Try.prog 132 #[.int .u64 a] w fun e w' => e = .returned (.tuple #[.int .i64 (a % 86400 / 3600), .int .i64 (a % 3600 / 60), .int .i64 (a % 60)]) ∧ w = w' := by
  go_enter Try.func132, Try.ntmps132
  go_wp2_with fail
  go_ret3
  exact ⟨tup3 (i64_eq rfl) (i64_eq (by omega)) (i64_eq (by omega)), rfl⟩

end Go.Proofs.Ytpgclepiagfgfaa
