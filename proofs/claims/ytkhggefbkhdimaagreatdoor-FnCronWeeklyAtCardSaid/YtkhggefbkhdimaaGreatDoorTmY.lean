/- pub/gotime in UTC: Unix, In, Location, Add, Date. -/
import Derived.Test.YtkhggefbkhdimaaGreatDoorGTm
import Derived.Test.YtkhggefbkhdimaaGreatDoorPBits
namespace Go.Proofs.YtkhggefbkhdimaaGreatDoor
open Go.RowKit
set_option linter.unusedVariables false
set_option linter.unusedSimpArgs false

theorem andNot_lo (ns : Nat) (h : ns < 1073741824) : bits .andNot .u64 (ns : Int) 1073741823 = 0 := by
  rw [show (1073741823 : Int) = ((2 ^ 30 - 1 : Nat) : Int) from rfl, u64_andNot_nat ns (2 ^ 30 - 1) (by omega) (by decide)]
  have e : ns &&& (18446744073709551615 - (2 ^ 30 - 1)) = 0 := by
    apply Nat.eq_of_testBit_eq
    intro i
    rw [Nat.testBit_and, show 18446744073709551615 - (2 ^ 30 - 1) = 18446744073709551616 - 2 ^ 30 from rfl, sub_bit 30 i (by decide)]
    by_cases hi : 30 ≤ i
    · rw [Nat.testBit_lt_two_pow (Nat.lt_of_lt_of_le (show ns < 2 ^ 30 by simpa using h) (Nat.pow_le_pow_right (by decide) hi))]; simp
    · simp [hi]
  rw [e]; rfl

set_option maxHeartbeats 400000 in
theorem unix_any (ns : Nat) (sec : Int) (hn : ns < 1000000000) (h0 : -1000000000000 < sec) (h1 : sec < 1000000000000) (w : World) :
    Calls Tryz.prog 88 #[.int .i64 sec, .int .i64 ns] w fun e w' => e = .returned (.agg #[.int .u64 ns, .int .i64 (sec + 62135596800), .pointer none]) ∧ Below w.heap.size w w' := by
  go_enter Tryz.func88, Tryz.ntmps88
  go_wp2_with fail
  refine (unixTime_any ns sec hn h0 h1 _).mono ?_
  rintro e w1 ⟨rfl, hb⟩
  have R1 : RowAt w1 w.heap.size 95 #[.int .u64 0, .int .i64 0, .pointer none] := (rowAt_last w _ _ _ rfl).below hb
  have b1 : Below w.heap.size w w1 := Below.trans (by repeat (first | (with_reducible assumption) | (with_reducible exact Below.refl _ _) | (with_reducible refine Below.setCell ?_ (by first | omega | (simp <;> omega)) _) | refine below_drewN ?_ _ | refine Below.drew ?_ | refine Below.alloc ?_ (by first | omega | (simp <;> omega)) _)) (hb.mono (by simp))
  clear hb
  have c0 : w1.cell? ⟨w.heap.size, 0, none⟩ = some (.int .u64 0) := R1.cell 0
  have c1 : w1.cell? ⟨w.heap.size, 1, none⟩ = some (.int .i64 0) := R1.cell 1
  have c2 : w1.cell? ⟨w.heap.size, 2, none⟩ = some (.pointer none) := R1.cell 2
  have f0 := R1.free 0
  have f1 := R1.free 1
  have f2 := R1.free 2
  clear R1
  go_wp2_with fail
  refine bodyPost_ret (v := .agg #[.int .u64 ns, .int .i64 (sec + 62135596800), .pointer none]) (by simp [results, Tryz.results88, go_sem, c0, c1, c2]) rfl ⟨rfl, ?_⟩
  exact (by repeat (first | (with_reducible assumption) | (with_reducible exact Below.refl _ _) | (with_reducible refine Below.setCell ?_ (by first | omega | (simp <;> omega)) _) | refine below_drewN ?_ _ | refine Below.drew ?_ | refine Below.alloc ?_ (by first | omega | (simp <;> omega)) _))

set_option maxHeartbeats 400000 in
theorem in_any (ns : Nat) (ext : Int) (hn : ns < 1000000000) (he : 0 ≤ ext) (he2 : ext < 1000000000000) (u : Nat) (w : World) (hu : UtcAt w u) :
    Calls Tryz.prog 89 #[.agg #[.int .u64 ns, .int .i64 ext, .pointer none], .pointer (some ⟨u, 0, none⟩)] w fun e w' => e = .returned (.agg #[.int .u64 ns, .int .i64 ext, .pointer none]) ∧ Below w.heap.size w w' := by
  have lt := hu.lt
  go_enter Tryz.func89, Tryz.ntmps89
  go_wp2_with fail
  refine (setLoc_any w.heap.size ns u ext hn _ ((rowAt_last w _ _ _ rfl).alloc _) ((hu.alloc _).alloc _)).mono ?_
  rintro e w1 ⟨rfl, rfl⟩
  go_wp2_with fail
  refine bodyPost_ret (v := .agg #[.int .u64 ns, .int .i64 ext, .pointer none]) (by simp [results, Tryz.results89, go_sem]) rfl ⟨rfl, ?_⟩
  exact (by repeat (first | (with_reducible assumption) | (with_reducible exact Below.refl _ _) | (with_reducible refine Below.setCell ?_ (by first | omega | (simp <;> omega)) _) | refine below_drewN ?_ _ | refine Below.drew ?_ | refine Below.alloc ?_ (by first | omega | (simp <;> omega)) _))

set_option maxHeartbeats 400000 in
theorem location_any (ns : Nat) (ext : Int) (hn : ns < 1000000000) (he : 0 ≤ ext) (he2 : ext < 1000000000000) (w : World) :
    Calls Tryz.prog 191 #[.agg #[.int .u64 ns, .int .i64 ext, .pointer none]] w fun e w' => ∃ u, w.heap.size < u ∧ e = .returned (.pointer (some ⟨u, 0, none⟩)) ∧ UtcAt w' u ∧ Below w.heap.size w w' := by
  go_enter Tryz.func191, Tryz.ntmps191
  go_wp2_with (refine (utc_any _).mono ?_; rintro e w1 ⟨rfl, rfl⟩)
  go_ret
  exact ⟨w.heap.size + 1, by omega, by simp, rowAt_last _ _ _ _ (by simp), (by repeat (first | (with_reducible assumption) | (with_reducible exact Below.refl _ _) | (with_reducible refine Below.setCell ?_ (by first | omega | (simp <;> omega)) _) | refine below_drewN ?_ _ | refine Below.drew ?_ | refine Below.alloc ?_ (by first | omega | (simp <;> omega)) _))⟩

set_option maxHeartbeats 400000 in
theorem addFirst_one (ext : Int) (he : 0 ≤ ext) (he2 : ext < 1000000000000) (w : World) :
    Calls Tryz.prog 192 #[.agg #[.int .u64 0, .int .i64 ext, .pointer none], .int .i64 1000000000] w fun e w' => e = .returned (.agg #[.int .u64 0, .int .i64 (ext + 1), .pointer none]) ∧ Below w.heap.size w w' := by
  have B : bits .andNot .u64 0 1073741823 = 0 := by decide
  have C : bits .or .u64 0 0 = 0 := by decide
  have A := and_hi 0 (by omega)
  simp only [Int.natCast_zero] at A
  go_enter Tryz.func192, Tryz.ntmps192
  go_wp2_with fail
  refine (nsec_any _ 0 ext (by omega) _ ((rowAt_last w _ _ _ rfl).alloc _)).mono ?_
  rintro e w1 ⟨rfl, rfl⟩
  go_wp2_with fail
  refine (addSec_any _ 0 ext 1 (by omega) he he2 (by omega) (by omega) _ ((rowAt_last w _ _ _ rfl).alloc _)).mono ?_
  rintro e w1 ⟨rfl, rfl⟩
  go_wp2_with fail
  refine bodyPost_ret (v := .agg #[.int .u64 0, .int .i64 (ext + 1), .pointer none]) (by simp [results, Tryz.results192, go_sem]) rfl ⟨rfl, ?_⟩
  exact (by repeat (first | (with_reducible assumption) | (with_reducible exact Below.refl _ _) | (with_reducible refine Below.setCell ?_ (by first | omega | (simp <;> omega)) _) | refine below_drewN ?_ _ | refine Below.drew ?_ | refine Below.alloc ?_ (by first | omega | (simp <;> omega)) _))

set_option maxHeartbeats 400000 in
theorem addFirst_more (ns : Nat) (ext d : Int) (hn : ns < 1000000000) (h0 : 0 < ns) (he : 0 ≤ ext) (he2 : ext < 1000000000000) (hd : (ns : Int) + d = 1000000000) (w : World) :
    Calls Tryz.prog 192 #[.agg #[.int .u64 ns, .int .i64 ext, .pointer none], .int .i64 d] w fun e w' => e = .returned (.agg #[.int .u64 0, .int .i64 (ext + 1), .pointer none]) ∧ Below w.heap.size w w' := by
  have d0 : 0 < d := by omega
  have d1 : d < 1000000000 := by omega
  have hq : d / 1000000000 = 0 := by omega
  have hm : d % 1000000000 = d := by omega
  have B : bits .andNot .u64 (ns : Int) 1073741823 = 0 := andNot_lo ns (by omega)
  have C : bits .or .u64 0 0 = 0 := by decide
  have A := and_hi 0 (by omega)
  simp only [Int.natCast_zero] at A
  go_enter Tryz.func192, Tryz.ntmps192
  go_wp2_with fail
  refine (nsec_any _ ns ext (by omega) _ ((rowAt_last w _ _ _ rfl).alloc _)).mono ?_
  rintro e w1 ⟨rfl, rfl⟩
  go_wp2_with fail
  refine (addSec_any _ 0 ext 1 (by omega) he he2 (by omega) (by omega) _ ((rowAt_last w _ _ _ rfl).alloc _)).mono ?_
  rintro e w1 ⟨rfl, rfl⟩
  go_wp2_with fail
  refine bodyPost_ret (v := .agg #[.int .u64 0, .int .i64 (ext + 1), .pointer none]) (by simp [results, Tryz.results192, go_sem]) rfl ⟨rfl, ?_⟩
  exact (by repeat (first | (with_reducible assumption) | (with_reducible exact Below.refl _ _) | (with_reducible refine Below.setCell ?_ (by first | omega | (simp <;> omega)) _) | refine below_drewN ?_ _ | refine Below.drew ?_ | refine Below.alloc ?_ (by first | omega | (simp <;> omega)) _))

set_option maxHeartbeats 400000 in
theorem addFirst_any (ns : Nat) (ext d : Int) (hn : ns < 1000000000) (he : 0 ≤ ext) (he2 : ext < 1000000000000) (hd : (ns : Int) + d = 1000000000) (w : World) :
    Calls Tryz.prog 192 #[.agg #[.int .u64 ns, .int .i64 ext, .pointer none], .int .i64 d] w fun e w' => e = .returned (.agg #[.int .u64 0, .int .i64 (ext + 1), .pointer none]) ∧ Below w.heap.size w w' := by
  by_cases h0 : ns = 0
  · subst h0
    obtain rfl : d = 1000000000 := by omega
    exact addFirst_one ext he he2 w
  · exact addFirst_more ns ext d hn (by omega) he he2 hd w

set_option maxHeartbeats 400000 in
theorem addSecs_any (ext d k : Int) (he : 0 ≤ ext) (he2 : ext < 1000000000000) (hd : d = 1000000000 * k) (k0 : 0 ≤ ext + k) (k1 : -1000000000 < k) (k2 : k < 1000000000) (w : World) :
    Calls Tryz.prog 192 #[.agg #[.int .u64 0, .int .i64 ext, .pointer none], .int .i64 d] w fun e w' => e = .returned (.agg #[.int .u64 0, .int .i64 (ext + k), .pointer none]) ∧ Below w.heap.size w w' := by
  have hq : d.tdiv 1000000000 = k := by rw [hd]; exact Int.mul_tdiv_cancel_left k (by decide)
  have hm : d.tmod 1000000000 = 0 := by rw [hd]; exact Int.mul_tmod_right 1000000000 k
  have B : bits .andNot .u64 0 1073741823 = 0 := by decide
  have C : bits .or .u64 0 0 = 0 := by decide
  have HD := Lib.hid hd
  clear hd
  have A := and_hi 0 (by omega)
  simp only [Int.natCast_zero] at A
  go_enter Tryz.func192, Tryz.ntmps192
  go_wp2_with fail
  refine (nsec_any _ 0 ext (by omega) _ ((rowAt_last w _ _ _ rfl).alloc _)).mono ?_
  rintro e w1 ⟨rfl, rfl⟩
  go_wp2_with fail
  refine (addSec_any _ 0 ext k (by omega) he he2 (by omega) (by omega) _ ((rowAt_last w _ _ _ rfl).alloc _)).mono ?_
  rintro e w1 ⟨rfl, rfl⟩
  go_wp2_with fail
  refine bodyPost_ret (v := .agg #[.int .u64 0, .int .i64 (ext + k), .pointer none]) (by simp [results, Tryz.results192, go_sem]) rfl ⟨rfl, ?_⟩
  exact (by repeat (first | (with_reducible assumption) | (with_reducible exact Below.refl _ _) | (with_reducible refine Below.setCell ?_ (by first | omega | (simp <;> omega)) _) | refine below_drewN ?_ _ | refine Below.drew ?_ | refine Below.alloc ?_ (by first | omega | (simp <;> omega)) _))

set_option maxHeartbeats 400000 in
theorem dateU_any (y m d hh mi ss Y M : Int) (hYM : (m ≤ 12 ∧ Y = y ∧ M = m) ∨ (m = 13 ∧ Y = y + 1 ∧ M = 1)) (y0 : 1 ≤ y) (y1 : y ≤ 20000) (m1 : 1 ≤ m) (d1 : 1 ≤ d) (d2 : d ≤ 32) (h0 : 0 ≤ hh) (h1 : hh < 24) (i0 : 0 ≤ mi) (i1 : mi < 60) (s0 : 0 ≤ ss) (s1 : ss < 60) (u : Nat) (w : World) (hu : UtcAt w u) :
    Calls Tryz.prog 195 #[.int .i64 y, .int .i64 m, .int .i64 d, .int .i64 hh, .int .i64 mi, .int .i64 ss, .int .i64 0, .pointer (some ⟨u, 0, none⟩)] w fun e w' => e = .returned (.agg #[.int .u64 0, .int .i64 (86400 * (dayNo Y M d + 719162) + 3600 * hh + 60 * mi + ss), .pointer none]) ∧ Below w.heap.size w w' := by
  have lt := hu.lt
  have hN : ∀ W, Calls Tryz.prog 210 #[.int .i64 y, .int .i64 (m - 1), .int .i64 12] W fun e w' => e = .returned (.tuple #[.int .i64 Y, .int .i64 (M - 1)]) ∧ W = w' := by
    intro W
    rcases hYM with ⟨a, rfl, rfl⟩ | ⟨rfl, rfl, rfl⟩
    · exact normIn_any Y (M - 1) 12 (by omega) (by omega) (by decide) W
    · exact norm12_any y (by omega) (by omega) W
  have M1 : 1 ≤ M := by omega
  have M2 : M ≤ 12 := by omega
  have Y1 : 1 ≤ Y := by omega
  have Y2 : Y ≤ 20001 := by omega
  have m2 : m ≤ 13 := by omega
  have HN := Lib.hid hN
  clear hN hYM
  go_enter Tryz.func195, Tryz.ntmps195
  go_wp2_with fail
  refine (HN.out _).mono ?_
  rintro e w1 ⟨rfl, rfl⟩
  go_wp2_with fail
  refine (normIn_any ss 0 1000000000 (by omega) (by omega) (by decide) _).mono ?_
  rintro e w1 ⟨rfl, rfl⟩
  go_wp2_with fail
  refine (normIn_any mi ss 60 (by omega) (by omega) (by decide) _).mono ?_
  rintro e w1 ⟨rfl, rfl⟩
  go_wp2_with fail
  refine (normIn_any hh mi 60 (by omega) (by omega) (by decide) _).mono ?_
  rintro e w1 ⟨rfl, rfl⟩
  go_wp2_with fail
  refine (normIn_any d hh 24 (by omega) (by omega) (by decide) _).mono ?_
  rintro e w1 ⟨rfl, rfl⟩
  go_wp2_with fail
  refine (toAbs_any Y M d (by omega) (by omega) (by omega) (by omega) (by omega) (by omega) _).mono ?_
  rintro e w1 ⟨rfl, rfl⟩
  have DB := dayNo_bd Y M d (by omega) (by omega) (by omega) (by omega) (by omega) (by omega)
  obtain ⟨D, hD⟩ : ∃ D, Hid (dayNo Y M d = D) := ⟨_, rfl⟩
  rw [hD.out] at DB
  rw [hD.out]
  go_wp2_with fail
  obtain ⟨U, hU⟩ : ∃ U, U = 86400 * D + 3600 * hh + 60 * mi + ss := ⟨_, rfl⟩
  have hX : wrap64 (wrap64 (wrap64 ((D + 106751991073400) * 86400) + (hh * 3600 + mi * 60 + ss)) + -9223372028741760000) = U := by unfold wrap64; omega
  rw [hX]
  have U0 : -1000000000000 < U := by omega
  have U1 : U < 1000000000000 := by omega
  have HU := Lib.hid hU
  clear hU hX
  refine (lookup_any u U _ (hu.alloc _)).mono ?_
  rintro e w1 ⟨rfl, rfl⟩
  go_wp2_with fail
  refine (unixTime_any 0 U (by decide) (by omega) (by omega) _).mono ?_
  rintro e w2 ⟨rfl, hb⟩
  have R1 : RowAt w2 w.heap.size 95 #[.int .u64 0, .int .i64 0, .pointer none] := RowAt.below (rowAt_last w _ _ _ rfl) hb
  have hu2 : UtcAt w2 u := RowAt.below (hu.alloc _) hb
  have b2 : Below w.heap.size w w2 := Below.trans (by repeat (first | (with_reducible assumption) | (with_reducible exact Below.refl _ _) | (with_reducible refine Below.setCell ?_ (by first | omega | (simp <;> omega)) _) | refine below_drewN ?_ _ | refine Below.drew ?_ | refine Below.alloc ?_ (by first | omega | (simp <;> omega)) _)) (hb.mono (by simp))
  have lt2 := R1.lt
  clear hb
  go_wp2_with fail
  refine (setLoc_any w2.heap.size 0 u (U + 62135596800) (by decide) _ (rowAt_last w2 _ _ _ rfl) (hu2.alloc _)).mono ?_
  rintro e w3 ⟨rfl, rfl⟩
  have c0 : w2.cell? ⟨w.heap.size, 0, none⟩ = some (.int .u64 0) := R1.cell 0
  have c1 : w2.cell? ⟨w.heap.size, 1, none⟩ = some (.int .i64 0) := R1.cell 1
  have c2 : w2.cell? ⟨w.heap.size, 2, none⟩ = some (.pointer none) := R1.cell 2
  have f0 := R1.free 0
  have f1 := R1.free 1
  have f2 := R1.free 2
  go_wp2_with fail
  refine bodyPost_ret (v := .agg #[.int .u64 0, .int .i64 (U + 62135596800), .pointer none]) (by simp [results, Tryz.results195, go_sem, c0, c1, c2, lt2]) rfl ⟨ret_agg (by rw [HU.out, show 86400 * D + 3600 * hh + 60 * mi + ss + 62135596800 = 86400 * (D + 719162) + 3600 * hh + 60 * mi + ss by omega, hD.out]), ?_⟩
  exact (by repeat (first | (with_reducible assumption) | (with_reducible exact Below.refl _ _) | (with_reducible refine Below.setCell ?_ (by first | omega | (simp <;> omega)) _) | refine below_drewN ?_ _ | refine Below.drew ?_ | refine Below.alloc ?_ (by first | omega | (simp <;> omega)) _))

end Go.Proofs.YtkhggefbkhdimaaGreatDoor
