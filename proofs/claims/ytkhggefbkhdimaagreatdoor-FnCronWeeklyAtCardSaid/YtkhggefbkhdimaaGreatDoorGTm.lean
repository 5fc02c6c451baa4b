/- Small functions of pub/gotime over times without a monotonic reading and without a place. What pub/gotime shows of a time in UTC: year, month, day, hour, minute, second. The methods of time.Time that show a time in UTC. Functions of pub/gotime that make a time in UTC. -/
import Derived.Test.YtkhggefbkhdimaaGreatDoorWk
import Derived.Test.YtkhggefbkhdimaaGreatDoorGCal
import Derived.WalkSmall
namespace Go.Proofs.YtkhggefbkhdimaaGreatDoor
open Go.RowKit
set_option linter.unusedVariables false
set_option linter.unusedSimpArgs false

theorem wp_named {P : Program} {c : Code} {Q : Exit → Act → World → Prop} {a : Act} {W : World} (h : ∀ W1, W = W1 → Code.wp P c Q a W1) : Code.wp P c Q a W := h W rfl
/-- A row of cells at block g. -/
def RowAt (w : World) (g : Nat) (t : TypeId) (cs : Array Value) : Prop := w.heap[g]? = some (.cells cs t (0, 0))
theorem RowAt.lt {w : World} {g : Nat} {t : TypeId} {cs : Array Value} (h : RowAt w g t cs) : g < w.heap.size := (Array.getElem?_eq_some_iff.1 h).1
theorem RowAt.cell {w : World} {g : Nat} {t : TypeId} {cs : Array Value} (h : RowAt w g t cs) (i : Nat) : w.cell? ⟨g, i, none⟩ = cs[i]? := cell_of_row w g i cs _ (0, 0) h
theorem RowAt.free {w : World} {g : Nat} {t : TypeId} {cs : Array Value} (h : RowAt w g t cs) (i : Nat) : w.frozen? ⟨g, i, none⟩ = false := by simp [World.frozen?, show w.heap[g]? = _ from h]
theorem rowAt_last (W : World) (t : TypeId) (cs : Array Value) (n : Nat) (hn : n = W.heap.size) : RowAt (W.alloc (.cells cs t)) n t cs := by subst hn; exact heap_alloc_new W _
theorem RowAt.alloc {W : World} {g : Nat} {t : TypeId} {cs : Array Value} (h : RowAt W g t cs) (o : Obj) : RowAt (W.alloc o) g t cs := (Below.heap_alloc W o g h.lt).trans h
theorem RowAt.drew {W : World} {g : Nat} {t : TypeId} {cs : Array Value} (h : RowAt W g t cs) : RowAt W.drew g t cs := h
theorem RowAt.below {w w' : World} {g : Nat} {t : TypeId} {cs : Array Value} (h : RowAt w g t cs) (hb : Below w.heap.size w w') : RowAt w' g t cs := (hb.block g h.lt).trans h

/-- A time: ns nanoseconds of a second, the second ext since the first of year 1, UTC. -/
abbrev TmAt (w : World) (g : Nat) (ns : Nat) (ext : Int) : Prop := RowAt w g 95 #[.int .u64 ns, .int .i64 ext, .pointer none]
abbrev UtcAt (w : World) (g : Nat) : Prop := RowAt w g 178 #[.bool true, .string ⟨#[85, 84, 67]⟩, .slice none 0 0, .slice none 0 0, .string ⟨#[]⟩, .int .i64 0, .int .i64 0, .pointer none]

theorem and_hi (ns : Nat) (h : ns < 9223372036854775808) : bits .and .u64 (ns : Int) 9223372036854775808 = 0 := by
  rw [show (9223372036854775808 : Int) = ((2 ^ 63 : Nat) : Int) from rfl, u64_and_nat ns (2 ^ 63) (by omega) (by decide)]
  have : ns &&& 2 ^ 63 = 0 := by
    apply Nat.eq_of_testBit_eq; intro i; rw [Nat.testBit_and, Nat.testBit_two_pow]; by_cases hi : 63 = i
    · subst hi; rw [Nat.testBit_lt_two_pow (by simpa using h)]; simp
    · simp [hi]
  rw [this]; rfl
theorem and_lo (ns : Nat) (h : ns < 1073741824) : bits .and .u64 (ns : Int) 1073741823 = ns := by
  rw [show (1073741823 : Int) = ((2 ^ 30 - 1 : Nat) : Int) from rfl, u64_and_nat ns (2 ^ 30 - 1) (by omega) (by decide), Nat.and_two_pow_sub_one_eq_mod]
  rw [Nat.mod_eq_of_lt (by simpa using h)]

set_option maxHeartbeats 400000 in
theorem sec_any (g ns : Nat) (ext : Int) (hn : ns < 1000000000) (w : World) (h : TmAt w g ns ext) :
    Calls Tryz.prog 152 #[.pointer (some ⟨g, 0, none⟩)] w fun e w' => e = .returned (.int .i64 ext) ∧ w = w' := by
  have c0 : w.cell? ⟨g, 0, none⟩ = some (.int .u64 ns) := h.cell 0
  have c1 : w.cell? ⟨g, 1, none⟩ = some (.int .i64 ext) := h.cell 1
  have c2 : w.cell? ⟨g, 2, none⟩ = some (.pointer none) := h.cell 2
  have A := and_hi ns (by omega)
  clear h
  go_enter Tryz.func152, Tryz.ntmps152
  go_wp2_with fail
  go_ret
  exact ⟨rfl, rfl⟩

set_option maxHeartbeats 400000 in
theorem nsec_any (g ns : Nat) (ext : Int) (hn : ns < 1000000000) (w : World) (h : TmAt w g ns ext) :
    Calls Tryz.prog 141 #[.pointer (some ⟨g, 0, none⟩)] w fun e w' => e = .returned (.int .i32 ns) ∧ w = w' := by
  have c0 : w.cell? ⟨g, 0, none⟩ = some (.int .u64 ns) := h.cell 0
  have c1 : w.cell? ⟨g, 1, none⟩ = some (.int .i64 ext) := h.cell 1
  have c2 : w.cell? ⟨g, 2, none⟩ = some (.pointer none) := h.cell 2
  have A := and_lo ns (by omega)
  clear h
  go_enter Tryz.func141, Tryz.ntmps141
  go_wp2_with fail
  go_ret
  exact ⟨rfl, rfl⟩

set_option maxHeartbeats 400000 in
theorem unixSec_any (g ns : Nat) (ext : Int) (hn : ns < 1000000000) (he : 0 ≤ ext) (he2 : ext < 1000000000000) (w : World) (h : TmAt w g ns ext) :
    Calls Tryz.prog 140 #[.pointer (some ⟨g, 0, none⟩)] w fun e w' => e = .returned (.int .i64 (ext - 62135596800)) ∧ w = w' := by
  go_enter Tryz.func140, Tryz.ntmps140
  go_wp2_with (refine (sec_any g ns ext hn w h).mono ?_; rintro e w' ⟨rfl, rfl⟩)
  go_ret
  exact ⟨ret_i64 (by omega), rfl⟩

set_option maxHeartbeats 400000 in
theorem stripMono_any (g ns : Nat) (ext : Int) (hn : ns < 1000000000) (w : World) (h : TmAt w g ns ext) :
    Calls Tryz.prog 142 #[.pointer (some ⟨g, 0, none⟩)] w fun e w' => e = .returned (.tuple #[]) ∧ w = w' := by
  have c0 : w.cell? ⟨g, 0, none⟩ = some (.int .u64 ns) := h.cell 0
  have c1 : w.cell? ⟨g, 1, none⟩ = some (.int .i64 ext) := h.cell 1
  have c2 : w.cell? ⟨g, 2, none⟩ = some (.pointer none) := h.cell 2
  have A := and_hi ns (by omega)
  clear h
  go_enter Tryz.func142, Tryz.ntmps142
  go_wp2_with fail
  go_end0
  exact ⟨rfl, rfl⟩

set_option maxHeartbeats 400000 in
theorem utc_any (w : World) :
    Calls Tryz.prog 90 #[] w fun e w' => e = .returned (.pointer (some ⟨w.heap.size, 0, none⟩)) ∧ w' = w.alloc (.cells #[.bool true, .string ⟨#[85, 84, 67]⟩, .slice none 0 0, .slice none 0 0, .string ⟨#[]⟩, .int .i64 0, .int .i64 0, .pointer none] 178) := by
  go_enter Tryz.func90, Tryz.ntmps90
  go_wp2_with fail
  go_ret
  exact ⟨rfl, rfl⟩

set_option maxHeartbeats 400000 in
theorem getNil_any (w : World) :
    Calls Tryz.prog 217 #[.pointer none] w fun e w' => e = .returned (.pointer (some ⟨w.heap.size, 0, none⟩)) ∧ w' = w.alloc (.cells #[.bool true, .string ⟨#[85, 84, 67]⟩, .slice none 0 0, .slice none 0 0, .string ⟨#[]⟩, .int .i64 0, .int .i64 0, .pointer none] 178) := by
  go_enter Tryz.func217, Tryz.ntmps217
  go_wp2_with (refine (utc_any _).mono ?_; rintro e w' ⟨rfl, rfl⟩)
  go_ret
  exact ⟨rfl, rfl⟩

set_option maxHeartbeats 400000 in
theorem getSome_any (a : Addr) (w : World) :
    Calls Tryz.prog 217 #[.pointer (some a)] w fun e w' => e = .returned (.pointer (some a)) ∧ w = w' := by
  go_enter Tryz.func217, Tryz.ntmps217
  go_wp2_with fail
  go_ret
  exact ⟨rfl, rfl⟩

end Go.Proofs.YtkhggefbkhdimaaGreatDoor

namespace Go.Proofs.YtkhggefbkhdimaaGreatDoor
open Go.RowKit
set_option linter.unusedVariables false
set_option linter.unusedSimpArgs false

theorem ret_tup {a b : Array Value} (h : a = b) : Ending.returned (.tuple a) = .returned (.tuple b) := by rw [h]
theorem ret_eq {a b : Value} (h : a = b) : Ending.returned a = .returned b := by rw [h]
theorem i64_eq {a b : Int} (h : a = b) : Value.int .i64 a = .int .i64 b := by rw [h]
theorem u64_eq {a b : Int} (h : a = b) : Value.int .u64 a = .int .u64 b := by rw [h]
theorem tup2 {a b a' b' : Value} (h : a = a') (k : b = b') : Ending.returned (.tuple #[a, b]) = .returned (.tuple #[a', b']) := by rw [h, k]
theorem tup3 {a b c a' b' c' : Value} (h : a = a') (k : b = b') (l : c = c') : Ending.returned (.tuple #[a, b, c]) = .returned (.tuple #[a', b', c']) := by rw [h, k, l]

set_option maxHeartbeats 400000 in
theorem absSec_any (ns : Nat) (ext : Int) (hn : ns < 1000000000) (he : 0 ≤ ext) (he2 : ext < 1000000000000) (w : World) :
    Calls Tryz.prog 202 #[.agg #[.int .u64 ns, .int .i64 ext, .pointer none]] w fun e w' => e = .returned (.int .u64 (ext + 9223371966606163200)) ∧ Below w.heap.size w w' := by
  go_enter Tryz.func202, Tryz.ntmps202
  go_wp2_with fail
  refine (getNil_any _).mono ?_
  rintro e w1 ⟨rfl, rfl⟩
  go_wp2_with fail
  refine (unixSec_any _ ns ext hn he he2 _ ((rowAt_last w _ _ _ rfl).alloc _)).mono ?_
  rintro e w2 ⟨rfl, rfl⟩
  go_wp2_with fail
  go_ret
  exact ⟨ret_u64 (by rw [IntKind.wrap_u64]; unfold wrap64; omega), (by repeat (first | (with_reducible assumption) | (with_reducible exact Below.refl _ _) | (with_reducible refine Below.setCell ?_ (by first | omega | (simp <;> omega)) _) | refine below_drewN ?_ _ | refine Below.drew ?_ | refine Below.alloc ?_ (by first | omega | (simp <;> omega)) _))⟩

set_option maxHeartbeats 400000 in
theorem days_any (a : Int) (h : 0 ≤ a) (h2 : a < 18446744073709551616) (w : World) :
    Calls Tryz.prog 203 #[.int .u64 a] w fun e w' => e = .returned (.int .u64 (a / 86400)) ∧ w = w' := by
  go_enter Tryz.func203, Tryz.ntmps203
  go_wp2_with fail
  go_ret
  exact ⟨rfl, rfl⟩

set_option maxHeartbeats 400000 in
theorem mul32_any (x y : Int) (hx : 0 ≤ x) (hy : 0 ≤ y) (hx2 : x < 4294967296) (hy2 : y < 4294967296) (w : World) (hm : IntKind.u64.wrap (x * y) = x * y) (hp : 0 ≤ x * y) (hp2 : x * y < 18446744073709551616) :
    Calls Tryz.prog 218 #[.int .u32 x, .int .u32 y] w fun e w' => e = .returned (.tuple #[.int .u32 (x * y / 4294967296), .int .u32 (x * y % 4294967296)]) ∧ w = w' := by
  go_enter Tryz.func218, Tryz.ntmps218
  go_wp2_with fail
  have b : 0 ≤ x * y / 4294967296 ∧ x * y / 4294967296 < 4294967296 := by omega
  go_ret2
  exact ⟨tup2 (by first | rfl | (congr 1; omega)) rfl, rfl⟩

set_option maxHeartbeats 400000 in
theorem janFeb_any (n : Int) (w : World) :
    Calls Tryz.prog 207 #[.int .i64 (marchA n)] w fun e w' => e = .returned (.int .i64 (janFeb n)) ∧ w = w' := by
  unfold janFeb
  generalize marchA n = a
  by_cases h : 306 ≤ a
  all_goals
    go_enter Tryz.func207, Tryz.ntmps207
    go_wp2_with fail
    go_ret
    exact ⟨by simp [h], rfl⟩

set_option maxHeartbeats 400000 in
theorem split_any (n : Int) (h0 : -719162 ≤ n) (h1 : n < 100000000) (w : World) :
    Calls Tryz.prog 204 #[.int .u64 (n + 106751991073400)] w fun e w' => e = .returned (.tuple #[.int .u64 (marchC n + 2922770224), .int .i64 (marchQ n), .int .i64 (marchA n)]) ∧ w = w' := by
  have hC := abs_century n
  have hb := march_bd n
  have hO : bits .or .u32 ((4 * (n + 106751991073400) + 3) % 146097) 3 = 4 * marchR n + 3 := by
    rw [or3 _ (by omega) (by omega), hC.2]; unfold marchR; omega
  have hK := cut1461 (marchR n) (by omega) (by omega)
  have HC := Lib.hid hC
  have HK := Lib.hid hK
  clear hC hK
  have r0 : 0 ≤ marchR n := hb.1
  have r1 : marchR n ≤ 36524 := hb.2.1
  have HB := Lib.hid hb
  clear hb
  go_enter Tryz.func204, Tryz.ntmps204
  go_wp2_with fail
  refine (mul32_any 2939745 (4 * marchR n + 3) (by omega) (by omega) (by omega) (by omega) _ (by rw [IntKind.wrap_u64]; omega) (by omega) (by omega)).mono ?_
  rintro e w1 ⟨rfl, rfl⟩
  rw [HK.out.1]
  obtain ⟨l, hl, hl2⟩ : ∃ l : Int, 2939745 * (4 * marchR n + 3) % 4294967296 = l ∧ 0 ≤ l ∧ l < 4294967296 := ⟨_, rfl, by omega, by omega⟩
  have HL := Lib.hid (show l / 2939745 / 4 = (4 * marchR n + 3) % 1461 / 4 by rw [← hl]; exact HK.out.2)
  rw [hl]
  clear hl
  have q0 : 0 ≤ (4 * marchR n + 3) / 1461 ∧ (4 * marchR n + 3) / 1461 < 100 := by omega
  go_wp2_with fail
  go_ret3
  exact ⟨tup3 (u64_eq HC.out.1) (i64_eq rfl) (i64_eq HL.out), rfl⟩

set_option maxHeartbeats 400000 in
theorem ysplit_any (a : Int) (h0 : 0 ≤ a) (h : a ≤ 365) (w : World) :
    Calls Tryz.prog 205 #[.int .i64 a] w fun e w' => e = .returned (.tuple #[.int .i64 ((5 * a + 461) / 153), .int .i64 ((5 * a + 461) % 153 / 5 + 1)]) ∧ w = w' := by
  have hA := and16 (2141 * a + 197913) (by omega) (by omega)
  have HK := Lib.hid (cut153 a h0 h)
  go_enter Tryz.func205, Tryz.ntmps205
  go_wp2_with fail
  go_ret2
  exact ⟨tup2 (i64_eq HK.out.1) (i64_eq (by have := HK.out.2; omega)), rfl⟩

set_option maxHeartbeats 400000 in
theorem year_any (n : Int) (h0 : -719162 ≤ n) (h1 : n < 100000000) (w : World) :
    Calls Tryz.prog 208 #[.int .u64 (marchC n + 2922770224), .int .i64 (marchQ n), .int .i64 (janFeb n)] w fun e w' => e = .returned (.int .i64 (yearOf n)) ∧ w = w' := by
  have hc := marchC_bd n h0 h1
  have hb := march_bd n
  have hj : 0 ≤ janFeb n ∧ janFeb n ≤ 1 := by unfold janFeb; split <;> omega
  go_enter Tryz.func208, Tryz.ntmps208
  go_wp2_with fail
  go_ret
  exact ⟨ret_i64 (by unfold yearOf; omega), rfl⟩

set_option maxHeartbeats 400000 in
theorem month_any (a j : Int) (h0 : 0 ≤ a) (h1 : a ≤ 100) (j0 : 0 ≤ j) (j1 : j ≤ 1) (w : World) :
    Calls Tryz.prog 209 #[.int .i64 a, .int .i64 j] w fun e w' => e = .returned (.int .i64 (a - 12 * j)) ∧ w = w' := by
  go_enter Tryz.func209, Tryz.ntmps209
  go_wp2_with fail
  go_ret
  exact ⟨ret_i64 (by omega), rfl⟩

set_option maxHeartbeats 400000 in
theorem weekday_any (a : Int) (h : 0 ≤ a) (h2 : a < 1000000000000000) (w : World) :
    Calls Tryz.prog 222 #[.int .u64 a] w fun e w' => e = .returned (.int .i64 ((a + 3) % 7)) ∧ w = w' := by
  go_enter Tryz.func222, Tryz.ntmps222
  go_wp2_with fail
  go_ret
  exact ⟨rfl, rfl⟩

set_option maxHeartbeats 400000 in
theorem clock_any (a : Int) (h : 0 ≤ a) (h2 : a < 18446744073709551616) (w : World) :
    Calls Tryz.prog 221 #[.int .u64 a] w fun e w' => e = .returned (.tuple #[.int .i64 (a % 86400 / 3600), .int .i64 (a % 3600 / 60), .int .i64 (a % 60)]) ∧ w = w' := by
  go_enter Tryz.func221, Tryz.ntmps221
  go_wp2_with fail
  go_ret3
  exact ⟨tup3 (i64_eq rfl) (i64_eq (by omega)) (i64_eq (by omega)), rfl⟩

end Go.Proofs.YtkhggefbkhdimaaGreatDoor

namespace Go.Proofs.YtkhggefbkhdimaaGreatDoor
open Go.RowKit
set_option linter.unusedVariables false
set_option linter.unusedSimpArgs false

theorem dayN_abs (ext : Int) : (ext + 9223371966606163200) / 86400 = dayN ext + 106751991073400 := by unfold dayN; omega
theorem dayN_bd (ext : Int) (h0 : 0 ≤ ext) (h1 : ext < 1000000000000) : -719162 ≤ dayN ext ∧ dayN ext < 100000000 := by unfold dayN; omega
theorem marchA_bd (n : Int) : 0 ≤ marchA n ∧ marchA n ≤ 365 := ⟨(march_bd n).2.2.2.2.1, (march_bd n).2.2.2.2.2⟩
theorem janFeb_bd (n : Int) : 0 ≤ janFeb n ∧ janFeb n ≤ 1 := by unfold janFeb; split <;> omega

set_option maxHeartbeats 400000 in
theorem tYear_any (ns : Nat) (ext : Int) (hn : ns < 1000000000) (he : 0 ≤ ext) (he2 : ext < 1000000000000) (w : World) :
    Calls Tryz.prog 193 #[.agg #[.int .u64 ns, .int .i64 ext, .pointer none]] w fun e w' => e = .returned (.int .i64 (yearOf (dayN ext))) ∧ Below w.heap.size w w' := by
  obtain ⟨n, Hn⟩ : ∃ n, Hid (dayN ext = n) := ⟨_, rfl⟩
  have hd := dayN_bd ext he he2
  rw [Hn.out] at hd
  rw [Hn.out]
  go_enter Tryz.func193, Tryz.ntmps193
  go_wp2_with fail
  refine (absSec_any ns ext hn he he2 _).mono ?_
  rintro e w1 ⟨rfl, hb⟩
  have b1 : Below w.heap.size w w1 := Below.trans (by repeat (first | (with_reducible assumption) | (with_reducible exact Below.refl _ _) | (with_reducible refine Below.setCell ?_ (by first | omega | (simp <;> omega)) _) | refine below_drewN ?_ _ | refine Below.drew ?_ | refine Below.alloc ?_ (by first | omega | (simp <;> omega)) _)) (hb.mono (by simp))
  clear hb
  go_wp2_with fail
  refine (days_any _ (by omega) (by omega) _).mono ?_
  rintro e w2 ⟨rfl, rfl⟩
  rw [dayN_abs, Hn.out]
  go_wp2_with fail
  refine (split_any n hd.1 hd.2 _).mono ?_
  rintro e w3 ⟨rfl, rfl⟩
  have ma := marchA_bd n
  have jb := janFeb_bd n
  go_wp2_with fail
  refine (janFeb_any n _).mono ?_
  rintro e w4 ⟨rfl, rfl⟩
  go_wp2_with fail
  refine (year_any n hd.1 hd.2 _).mono ?_
  rintro e w4 ⟨rfl, rfl⟩
  go_wp2_with fail
  go_ret
  exact ⟨rfl, b1⟩

set_option maxHeartbeats 400000 in
theorem tMonth_any (ns : Nat) (ext : Int) (hn : ns < 1000000000) (he : 0 ≤ ext) (he2 : ext < 1000000000000) (w : World) :
    Calls Tryz.prog 194 #[.agg #[.int .u64 ns, .int .i64 ext, .pointer none]] w fun e w' => e = .returned (.int .i64 (monthOf (dayN ext))) ∧ Below w.heap.size w w' := by
  obtain ⟨n, Hn⟩ : ∃ n, Hid (dayN ext = n) := ⟨_, rfl⟩
  have hd := dayN_bd ext he he2
  rw [Hn.out] at hd
  rw [Hn.out]
  go_enter Tryz.func194, Tryz.ntmps194
  go_wp2_with fail
  refine (absSec_any ns ext hn he he2 _).mono ?_
  rintro e w1 ⟨rfl, hb⟩
  have b1 : Below w.heap.size w w1 := Below.trans (by repeat (first | (with_reducible assumption) | (with_reducible exact Below.refl _ _) | (with_reducible refine Below.setCell ?_ (by first | omega | (simp <;> omega)) _) | refine below_drewN ?_ _ | refine Below.drew ?_ | refine Below.alloc ?_ (by first | omega | (simp <;> omega)) _)) (hb.mono (by simp))
  clear hb
  go_wp2_with fail
  refine (days_any _ (by omega) (by omega) _).mono ?_
  rintro e w2 ⟨rfl, rfl⟩
  rw [dayN_abs, Hn.out]
  go_wp2_with fail
  refine (split_any n hd.1 hd.2 _).mono ?_
  rintro e w3 ⟨rfl, rfl⟩
  have ma := marchA_bd n
  have jb := janFeb_bd n
  go_wp2_with fail
  refine (ysplit_any _ ma.1 ma.2 _).mono ?_
  rintro e w4 ⟨rfl, rfl⟩
  go_wp2_with fail
  refine (janFeb_any n _).mono ?_
  rintro e w4 ⟨rfl, rfl⟩
  have mk : 3 ≤ (5 * marchA n + 461) / 153 ∧ (5 * marchA n + 461) / 153 ≤ 14 := by omega
  go_wp2_with fail
  refine (month_any _ _ (by omega) (by omega) jb.1 jb.2 _).mono ?_
  rintro e w4 ⟨rfl, rfl⟩
  go_wp2_with fail
  go_ret
  exact ⟨ret_i64 (by unfold monthOf; rfl), b1⟩

set_option maxHeartbeats 400000 in
theorem tDay_any (ns : Nat) (ext : Int) (hn : ns < 1000000000) (he : 0 ≤ ext) (he2 : ext < 1000000000000) (w : World) :
    Calls Tryz.prog 189 #[.agg #[.int .u64 ns, .int .i64 ext, .pointer none]] w fun e w' => e = .returned (.int .i64 (dayOf (dayN ext))) ∧ Below w.heap.size w w' := by
  obtain ⟨n, Hn⟩ : ∃ n, Hid (dayN ext = n) := ⟨_, rfl⟩
  have hd := dayN_bd ext he he2
  rw [Hn.out] at hd
  rw [Hn.out]
  go_enter Tryz.func189, Tryz.ntmps189
  go_wp2_with fail
  refine (absSec_any ns ext hn he he2 _).mono ?_
  rintro e w1 ⟨rfl, hb⟩
  have b1 : Below w.heap.size w w1 := Below.trans (by repeat (first | (with_reducible assumption) | (with_reducible exact Below.refl _ _) | (with_reducible refine Below.setCell ?_ (by first | omega | (simp <;> omega)) _) | refine below_drewN ?_ _ | refine Below.drew ?_ | refine Below.alloc ?_ (by first | omega | (simp <;> omega)) _)) (hb.mono (by simp))
  clear hb
  go_wp2_with fail
  refine (days_any _ (by omega) (by omega) _).mono ?_
  rintro e w2 ⟨rfl, rfl⟩
  rw [dayN_abs, Hn.out]
  go_wp2_with fail
  refine (split_any n hd.1 hd.2 _).mono ?_
  rintro e w3 ⟨rfl, rfl⟩
  have ma := marchA_bd n
  have jb := janFeb_bd n
  go_wp2_with fail
  refine (ysplit_any _ ma.1 ma.2 _).mono ?_
  rintro e w4 ⟨rfl, rfl⟩
  go_wp2_with fail
  go_ret
  exact ⟨ret_i64 (by unfold dayOf; rfl), b1⟩

set_option maxHeartbeats 400000 in
theorem tWeekday_any (ns : Nat) (ext : Int) (hn : ns < 1000000000) (he : 0 ≤ ext) (he2 : ext < 1000000000000) (w : World) :
    Calls Tryz.prog 215 #[.agg #[.int .u64 ns, .int .i64 ext, .pointer none]] w fun e w' => e = .returned (.int .i64 ((dayN ext + 4) % 7)) ∧ Below w.heap.size w w' := by
  obtain ⟨n, Hn⟩ : ∃ n, Hid (dayN ext = n) := ⟨_, rfl⟩
  have hd := dayN_bd ext he he2
  rw [Hn.out] at hd
  rw [Hn.out]
  go_enter Tryz.func215, Tryz.ntmps215
  go_wp2_with fail
  refine (absSec_any ns ext hn he he2 _).mono ?_
  rintro e w1 ⟨rfl, hb⟩
  have b1 : Below w.heap.size w w1 := Below.trans (by repeat (first | (with_reducible assumption) | (with_reducible exact Below.refl _ _) | (with_reducible refine Below.setCell ?_ (by first | omega | (simp <;> omega)) _) | refine below_drewN ?_ _ | refine Below.drew ?_ | refine Below.alloc ?_ (by first | omega | (simp <;> omega)) _)) (hb.mono (by simp))
  clear hb
  go_wp2_with fail
  refine (days_any _ (by omega) (by omega) _).mono ?_
  rintro e w2 ⟨rfl, rfl⟩
  rw [dayN_abs, Hn.out]
  go_wp2_with fail
  refine (weekday_any _ (by omega) (by omega) _).mono ?_
  rintro e w4 ⟨rfl, rfl⟩
  go_wp2_with fail
  go_ret
  exact ⟨ret_i64 (by omega), b1⟩

set_option maxHeartbeats 400000 in
theorem tHour_any (ns : Nat) (ext : Int) (hn : ns < 1000000000) (he : 0 ≤ ext) (he2 : ext < 1000000000000) (w : World) :
    Calls Tryz.prog 198 #[.agg #[.int .u64 ns, .int .i64 ext, .pointer none]] w fun e w' => e = .returned (.int .i64 (ext % 86400 / 3600)) ∧ Below w.heap.size w w' := by
  go_enter Tryz.func198, Tryz.ntmps198
  go_wp2_with fail
  refine (absSec_any ns ext hn he he2 _).mono ?_
  rintro e w1 ⟨rfl, hb⟩
  have b1 : Below w.heap.size w w1 := Below.trans (by repeat (first | (with_reducible assumption) | (with_reducible exact Below.refl _ _) | (with_reducible refine Below.setCell ?_ (by first | omega | (simp <;> omega)) _) | refine below_drewN ?_ _ | refine Below.drew ?_ | refine Below.alloc ?_ (by first | omega | (simp <;> omega)) _)) (hb.mono (by simp))
  clear hb
  go_wp2_with fail
  go_ret
  exact ⟨ret_i64 (by omega), b1⟩

set_option maxHeartbeats 400000 in
theorem tMinute_any (ns : Nat) (ext : Int) (hn : ns < 1000000000) (he : 0 ≤ ext) (he2 : ext < 1000000000000) (w : World) :
    Calls Tryz.prog 199 #[.agg #[.int .u64 ns, .int .i64 ext, .pointer none]] w fun e w' => e = .returned (.int .i64 (ext % 3600 / 60)) ∧ Below w.heap.size w w' := by
  go_enter Tryz.func199, Tryz.ntmps199
  go_wp2_with fail
  refine (absSec_any ns ext hn he he2 _).mono ?_
  rintro e w1 ⟨rfl, hb⟩
  have b1 : Below w.heap.size w w1 := Below.trans (by repeat (first | (with_reducible assumption) | (with_reducible exact Below.refl _ _) | (with_reducible refine Below.setCell ?_ (by first | omega | (simp <;> omega)) _) | refine below_drewN ?_ _ | refine Below.drew ?_ | refine Below.alloc ?_ (by first | omega | (simp <;> omega)) _)) (hb.mono (by simp))
  clear hb
  go_wp2_with fail
  go_ret
  exact ⟨ret_i64 (by omega), b1⟩

set_option maxHeartbeats 400000 in
theorem tSecond_any (ns : Nat) (ext : Int) (hn : ns < 1000000000) (he : 0 ≤ ext) (he2 : ext < 1000000000000) (w : World) :
    Calls Tryz.prog 201 #[.agg #[.int .u64 ns, .int .i64 ext, .pointer none]] w fun e w' => e = .returned (.int .i64 (ext % 60)) ∧ Below w.heap.size w w' := by
  go_enter Tryz.func201, Tryz.ntmps201
  go_wp2_with fail
  refine (absSec_any ns ext hn he he2 _).mono ?_
  rintro e w1 ⟨rfl, hb⟩
  have b1 : Below w.heap.size w w1 := Below.trans (by repeat (first | (with_reducible assumption) | (with_reducible exact Below.refl _ _) | (with_reducible refine Below.setCell ?_ (by first | omega | (simp <;> omega)) _) | refine below_drewN ?_ _ | refine Below.drew ?_ | refine Below.alloc ?_ (by first | omega | (simp <;> omega)) _)) (hb.mono (by simp))
  clear hb
  go_wp2_with fail
  go_ret
  exact ⟨ret_i64 (by omega), b1⟩

set_option maxHeartbeats 400000 in
theorem tClock_any (ns : Nat) (ext : Int) (hn : ns < 1000000000) (he : 0 ≤ ext) (he2 : ext < 1000000000000) (w : World) :
    Calls Tryz.prog 214 #[.agg #[.int .u64 ns, .int .i64 ext, .pointer none]] w fun e w' => e = .returned (.tuple #[.int .i64 (ext % 86400 / 3600), .int .i64 (ext % 3600 / 60), .int .i64 (ext % 60)]) ∧ Below w.heap.size w w' := by
  go_enter Tryz.func214, Tryz.ntmps214
  go_wp2_with fail
  refine (absSec_any ns ext hn he he2 _).mono ?_
  rintro e w1 ⟨rfl, hb⟩
  have b1 : Below w.heap.size w w1 := Below.trans (by repeat (first | (with_reducible assumption) | (with_reducible exact Below.refl _ _) | (with_reducible refine Below.setCell ?_ (by first | omega | (simp <;> omega)) _) | refine below_drewN ?_ _ | refine Below.drew ?_ | refine Below.alloc ?_ (by first | omega | (simp <;> omega)) _)) (hb.mono (by simp))
  clear hb
  go_wp2_with fail
  refine (clock_any _ (by omega) (by omega) _).mono ?_
  rintro e w4 ⟨rfl, rfl⟩
  go_wp2_with fail
  go_ret3
  exact ⟨tup3 (i64_eq (by omega)) (i64_eq (by omega)) (i64_eq (by omega)), b1⟩

set_option maxHeartbeats 400000 in
theorem date_any (n : Int) (hd : -719162 ≤ n ∧ n < 100000000) (w : World) :
    Calls Tryz.prog 220 #[.int .u64 (n + 106751991073400)] w fun e w' => e = .returned (.tuple #[.int .i64 (yearOf n), .int .i64 (monthOf n), .int .i64 (dayOf n)]) ∧ w = w' := by
  go_enter Tryz.func220, Tryz.ntmps220
  go_wp2_with fail
  refine (split_any n hd.1 hd.2 _).mono ?_
  rintro e w3 ⟨rfl, rfl⟩
  have ma := marchA_bd n
  have jb := janFeb_bd n
  go_wp2_with fail
  refine (ysplit_any _ ma.1 ma.2 _).mono ?_
  rintro e w4 ⟨rfl, rfl⟩
  go_wp2_with fail
  refine (janFeb_any n _).mono ?_
  rintro e w4 ⟨rfl, rfl⟩
  go_wp2_with fail
  refine (year_any n hd.1 hd.2 _).mono ?_
  rintro e w4 ⟨rfl, rfl⟩
  have mk : 3 ≤ (5 * marchA n + 461) / 153 ∧ (5 * marchA n + 461) / 153 ≤ 14 := by omega
  go_wp2_with fail
  refine (month_any _ _ (by omega) (by omega) jb.1 jb.2 _).mono ?_
  rintro e w4 ⟨rfl, rfl⟩
  go_wp2_with fail
  go_ret3
  exact ⟨tup3 (i64_eq rfl) (i64_eq (by unfold monthOf; rfl)) (i64_eq (by unfold dayOf; rfl)), rfl⟩

set_option maxHeartbeats 400000 in
theorem tDate_any (ns : Nat) (ext : Int) (hn : ns < 1000000000) (he : 0 ≤ ext) (he2 : ext < 1000000000000) (w : World) :
    Calls Tryz.prog 213 #[.agg #[.int .u64 ns, .int .i64 ext, .pointer none]] w fun e w' => e = .returned (.tuple #[.int .i64 (yearOf (dayN ext)), .int .i64 (monthOf (dayN ext)), .int .i64 (dayOf (dayN ext))]) ∧ Below w.heap.size w w' := by
  obtain ⟨n, Hn⟩ : ∃ n, Hid (dayN ext = n) := ⟨_, rfl⟩
  have hd := dayN_bd ext he he2
  rw [Hn.out] at hd
  rw [Hn.out]
  go_enter Tryz.func213, Tryz.ntmps213
  go_wp2_with fail
  refine (absSec_any ns ext hn he he2 _).mono ?_
  rintro e w1 ⟨rfl, hb⟩
  have b1 : Below w.heap.size w w1 := Below.trans (by repeat (first | (with_reducible assumption) | (with_reducible exact Below.refl _ _) | (with_reducible refine Below.setCell ?_ (by first | omega | (simp <;> omega)) _) | refine below_drewN ?_ _ | refine Below.drew ?_ | refine Below.alloc ?_ (by first | omega | (simp <;> omega)) _)) (hb.mono (by simp))
  clear hb
  go_wp2_with fail
  refine (days_any _ (by omega) (by omega) _).mono ?_
  rintro e w2 ⟨rfl, rfl⟩
  rw [dayN_abs, Hn.out]
  go_wp2_with fail
  refine (date_any n hd _).mono ?_
  rintro e w4 ⟨rfl, rfl⟩
  go_wp2_with fail
  go_ret3
  exact ⟨rfl, b1⟩

end Go.Proofs.YtkhggefbkhdimaaGreatDoor

namespace Go.Proofs.YtkhggefbkhdimaaGreatDoor
open Go.RowKit
set_option linter.unusedVariables false
set_option linter.unusedSimpArgs false

theorem ret_agg {a b : Array Value} (h : a = b) : Ending.returned (.agg a) = .returned (.agg b) := by rw [h]

set_option maxHeartbeats 400000 in
theorem setLoc_any (g ns u : Nat) (ext : Int) (hn : ns < 1000000000) (w : World) (h : TmAt w g ns ext) (hu : UtcAt w u) :
    Calls Tryz.prog 117 #[.pointer (some ⟨g, 0, none⟩), .pointer (some ⟨u, 0, none⟩)] w fun e w' => e = .returned (.tuple #[]) ∧ w' = w.setCell ⟨g, 2, none⟩ (.pointer none) := by
  have c0 : w.cell? ⟨g, 0, none⟩ = some (.int .u64 ns) := h.cell 0
  have c1 : w.cell? ⟨g, 1, none⟩ = some (.int .i64 ext) := h.cell 1
  have c2 : w.cell? ⟨g, 2, none⟩ = some (.pointer none) := h.cell 2
  have f0 := h.free 0
  have f1 := h.free 1
  have f2 := h.free 2
  have u0 : w.cell? ⟨u, 0, none⟩ = some (.bool true) := hu.cell 0
  have HH := Lib.hid h
  clear h hu
  go_enter Tryz.func117, Tryz.ntmps117
  go_wp2_with fail
  refine (stripMono_any g ns ext hn _ HH.out).mono ?_
  rintro e w1 ⟨rfl, rfl⟩
  go_wp2_with fail
  go_end0
  exact ⟨rfl, rfl⟩

set_option maxHeartbeats 400000 in
theorem addSec_any (g ns : Nat) (ext d : Int) (hn : ns < 1000000000) (he : 0 ≤ ext) (he2 : ext < 1000000000000) (hd : -1000000000000 < d) (hd2 : d < 1000000000000) (w : World) (h : TmAt w g ns ext) :
    Calls Tryz.prog 206 #[.pointer (some ⟨g, 0, none⟩), .int .i64 d] w fun e w' => e = .returned (.tuple #[]) ∧ w' = w.setCell ⟨g, 1, none⟩ (.int .i64 (ext + d)) := by
  have c0 : w.cell? ⟨g, 0, none⟩ = some (.int .u64 ns) := h.cell 0
  have c1 : w.cell? ⟨g, 1, none⟩ = some (.int .i64 ext) := h.cell 1
  have c2 : w.cell? ⟨g, 2, none⟩ = some (.pointer none) := h.cell 2
  have f0 := h.free 0
  have f1 := h.free 1
  have f2 := h.free 2
  have A := and_hi ns (by omega)
  clear h
  by_cases hp : 0 < d
  · have hx : (ext < ext + d) = True := eq_true (by omega)
    go_enter Tryz.func206, Tryz.ntmps206
    go_wp2_with fail
    go_end0
    exact ⟨rfl, rfl⟩
  · have hx : (ext < ext + d) = False := eq_false (by omega)
    go_enter Tryz.func206, Tryz.ntmps206
    go_wp2_with fail
    go_end0
    exact ⟨rfl, rfl⟩

set_option maxHeartbeats 400000 in
theorem normIn_any (hi lo b : Int) (h0 : 0 ≤ lo) (h1 : lo < b) (h2 : b ≤ 1000000000) (w : World) :
    Calls Tryz.prog 210 #[.int .i64 hi, .int .i64 lo, .int .i64 b] w fun e w' => e = .returned (.tuple #[.int .i64 hi, .int .i64 lo]) ∧ w = w' := by
  go_enter Tryz.func210, Tryz.ntmps210
  go_wp2_with fail
  go_ret2
  exact ⟨rfl, rfl⟩

set_option maxHeartbeats 400000 in
theorem norm12_any (hi : Int) (h0 : 0 ≤ hi) (h1 : hi ≤ 1000000) (w : World) :
    Calls Tryz.prog 210 #[.int .i64 hi, .int .i64 12, .int .i64 12] w fun e w' => e = .returned (.tuple #[.int .i64 (hi + 1), .int .i64 0]) ∧ w = w' := by
  go_enter Tryz.func210, Tryz.ntmps210
  go_wp2_with fail
  go_ret2
  exact ⟨rfl, rfl⟩

set_option maxHeartbeats 400000 in
theorem toAbs_any (y m d : Int) (y0 : 1 ≤ y) (y1 : y ≤ 100000) (m1 : 1 ≤ m) (m2 : m ≤ 12) (d1 : 1 ≤ d) (d2 : d ≤ 32) (w : World) :
    Calls Tryz.prog 211 #[.int .i64 y, .int .i64 m, .int .i64 d] w fun e w' => e = .returned (.int .u64 (dayNo y m d + 106751991073400)) ∧ w = w' := by
  by_cases hm : m < 3
  all_goals
    go_enter Tryz.func211, Tryz.ntmps211
    go_wp2_with fail
    go_ret
    exact ⟨ret_u64 (by first | (have a := abs_of y (by omega) y1 1 (Or.inr rfl); have b := absDay_eq y m d 1 m1 m2 (Or.inl ⟨hm, rfl⟩); have c := shr5 (m + 12) (by omega) (by omega); omega) | (have a := abs_of y (by omega) y1 0 (Or.inl rfl); have b := absDay_eq y m d 0 m1 m2 (Or.inr ⟨by omega, rfl⟩); have c := shr5 m (by omega) (by omega); simp only [Int.sub_zero, Int.mul_zero, Int.add_zero] at a b; omega)), rfl⟩

set_option maxRecDepth 100000 in
set_option maxHeartbeats 400000 in
theorem lookup_any (u : Nat) (sec : Int) (w : World) (hu : UtcAt w u) :
    Calls Tryz.prog 212 #[.pointer (some ⟨u, 0, none⟩), .int .i64 sec] w fun e w' => e = .returned (.tuple #[.string ⟨#[85, 84, 67]⟩, .int .i64 0, .int .i64 (-9223372036854775808), .int .i64 9223372036854775807, .bool false]) ∧ w = w' := by
  have u2 : w.cell? ⟨u, 2, none⟩ = some (.slice none 0 0) := hu.cell 2
  clear hu
  go_enter Tryz.func212, Tryz.ntmps212
  go_wp2_with fail
  refine (getSome_any _ _).mono ?_
  rintro e w1 ⟨rfl, rfl⟩
  go_wp2_with fail
  refine bodyPost_ret (v := .tuple #[.string ⟨#[85, 84, 67]⟩, .int .i64 0, .int .i64 (-9223372036854775808), .int .i64 9223372036854775807, .bool false]) (by simp [results, Tryz.results212, go_sem]) rfl ⟨rfl, rfl⟩

set_option maxHeartbeats 400000 in
theorem unixTime_any (ns : Nat) (sec : Int) (hn : ns < 1000000000) (h0 : -1000000000000 < sec) (h1 : sec < 1000000000000) (w : World) :
    Calls Tryz.prog 116 #[.int .i64 sec, .int .i32 ns] w fun e w' => e = .returned (.agg #[.int .u64 ns, .int .i64 (sec + 62135596800), .pointer none]) ∧ Below w.heap.size w w' := by
  go_enter Tryz.func116, Tryz.ntmps116
  go_wp2_with fail
  refine bodyPost_ret (v := .agg #[.int .u64 ns, .int .i64 (sec + 62135596800), .pointer none]) (by simp [results, Tryz.results116, go_sem]) rfl ⟨rfl, (by repeat (first | (with_reducible assumption) | (with_reducible exact Below.refl _ _) | (with_reducible refine Below.setCell ?_ (by first | omega | (simp <;> omega)) _) | refine below_drewN ?_ _ | refine Below.drew ?_ | refine Below.alloc ?_ (by first | omega | (simp <;> omega)) _))⟩

end Go.Proofs.YtkhggefbkhdimaaGreatDoor
