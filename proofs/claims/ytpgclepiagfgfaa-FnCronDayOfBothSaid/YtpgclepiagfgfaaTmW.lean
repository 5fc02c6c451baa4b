/- The methods of time.Time that show a time in UTC. -/
import Derived.Test.YtpgclepiagfgfaaTmV
import Derived.Test.YtpgclepiagfgfaaPNext
namespace Go.Proofs.Ytpgclepiagfgfaa
open Go.RowKit
set_option linter.unusedVariables false
set_option linter.unusedSimpArgs false

theorem dayN_abs (ext : Int) : (ext + 9223371966606163200) / 86400 = dayN ext + 106751991073400 := by unfold dayN; omega
theorem dayN_bd (ext : Int) (h0 : 0 ≤ ext) (h1 : ext < 1000000000000) : -719162 ≤ dayN ext ∧ dayN ext < 100000000 := by unfold dayN; omega
theorem marchA_bd (n : Int) : 0 ≤ marchA n ∧ marchA n ≤ 365 := ⟨(march_bd n).2.2.2.2.1, (march_bd n).2.2.2.2.2⟩
theorem janFeb_bd (n : Int) : 0 ≤ janFeb n ∧ janFeb n ≤ 1 := by unfold janFeb; split <;> omega

set_option maxHeartbeats 400000 in
theorem tYear_any (ns : Nat) (ext : Int) (hn : ns < 1000000000) (he : 0 ≤ ext) (he2 : ext < 1000000000000) (w : World) :
    Calls Try.prog 114 #[.agg #[.int .u64 ns, .int .i64 ext, .pointer none]] w fun e w' => e = .returned (.int .i64 (yearOf (dayN ext))) ∧ Below w.heap.size w w' := by
  obtain ⟨n, Hn⟩ : ∃ n, Hid (dayN ext = n) := ⟨_, rfl⟩
  have hd := dayN_bd ext he he2
  rw [Hn.out] at hd
  rw [Hn.out]
  go_enter Try.func114, Try.ntmps114
  go_wp2_with fail
  refine (absSec_any ns ext hn he he2 _).mono ?_
  rintro e w1 ⟨rfl, hb⟩
  have b1 : Below w.heap.size w w1 := Below.trans (by repeat (first | (with_reducible assumption) | (with_reducible exact Below.refl _ _) | (with_reducible refine Below.setCell ?_ (by first | omega | (simp <;> omega)) _) | refine below_drewN ?_ _ | refine Below.drew ?_ | refine Below.alloc ?_ (by first | omega | (simp <;> omega)) _)) (hb.mono (by simp))
  clear hb
  go_wp2_with fail
  refine (days_any _ (by omega) (by omega) _).mono ?_
  rintro e w2 ⟨rfl, rfl⟩
  rw [dayN_abs, Hn.out]
  go_wp2_with fail
  refine (split_any n hd.1 hd.2 _).mono ?_
  rintro e w3 ⟨rfl, rfl⟩
  have ma := marchA_bd n
  have jb := janFeb_bd n
  go_wp2_with fail
  refine (janFeb_any n _).mono ?_
  rintro e w4 ⟨rfl, rfl⟩
  go_wp2_with fail
  refine (year_any n hd.1 hd.2 _).mono ?_
  rintro e w4 ⟨rfl, rfl⟩
  go_wp2_with fail
  go_ret
  exact ⟨rfl, b1⟩

set_option maxHeartbeats 400000 in
theorem tMonth_any (ns : Nat) (ext : Int) (hn : ns < 1000000000) (he : 0 ≤ ext) (he2 : ext < 1000000000000) (w : World) :
    Calls Try.prog 115 #[.agg #[.int .u64 ns, .int .i64 ext, .pointer none]] w fun e w' => e = .returned (.int .i64 (monthOf (dayN ext))) ∧ Below w.heap.size w w' := by
  obtain ⟨n, Hn⟩ : ∃ n, Hid (dayN ext = n) := ⟨_, rfl⟩
  have hd := dayN_bd ext he he2
  rw [Hn.out] at hd
  rw [Hn.out]
  go_enter Try.func115, Try.ntmps115
  go_wp2_with fail
  refine (absSec_any ns ext hn he he2 _).mono ?_
  rintro e w1 ⟨rfl, hb⟩
  have b1 : Below w.heap.size w w1 := Below.trans (by repeat (first | (with_reducible assumption) | (with_reducible exact Below.refl _ _) | (with_reducible refine Below.setCell ?_ (by first | omega | (simp <;> omega)) _) | refine below_drewN ?_ _ | refine Below.drew ?_ | refine Below.alloc ?_ (by first | omega | (simp <;> omega)) _)) (hb.mono (by simp))
  clear hb
  go_wp2_with fail
  refine (days_any _ (by omega) (by omega) _).mono ?_
  rintro e w2 ⟨rfl, rfl⟩
  rw [dayN_abs, Hn.out]
  go_wp2_with fail
  refine (split_any n hd.1 hd.2 _).mono ?_
  rintro e w3 ⟨rfl, rfl⟩
  have ma := marchA_bd n
  have jb := janFeb_bd n
  go_wp2_with fail
  refine (ysplit_any _ ma.1 ma.2 _).mono ?_
  rintro e w4 ⟨rfl, rfl⟩
  go_wp2_with fail
  refine (janFeb_any n _).mono ?_
  rintro e w4 ⟨rfl, rfl⟩
  have mk : 3 ≤ (5 * marchA n + 461) / 153 ∧ (5 * marchA n + 461) / 153 ≤ 14 := by omega
  go_wp2_with fail
  refine (month_any _ _ (by omega) (by omega) jb.1 jb.2 _).mono ?_
  rintro e w4 ⟨rfl, rfl⟩
  go_wp2_with fail
  go_ret
  exact ⟨ret_i64 (by unfold monthOf; rfl), b1⟩

set_option maxHeartbeats 400000 in
theorem tDay_any (ns : Nat) (ext : Int) (hn : ns < 1000000000) (he : 0 ≤ ext) (he2 : ext < 1000000000000) (w : World) :
    Calls Try.prog 67 #[.agg #[.int .u64 ns, .int .i64 ext, .pointer none]] w fun e w' => e = .returned (.int .i64 (dayOf (dayN ext))) ∧ Below w.heap.size w w' := by
  obtain ⟨n, Hn⟩ : ∃ n, Hid (dayN ext = n) := ⟨_, rfl⟩
  have hd := dayN_bd ext he he2
  rw [Hn.out] at hd
  rw [Hn.out]
  go_enter Try.func67, Try.ntmps67
  go_wp2_with fail
  refine (absSec_any ns ext hn he he2 _).mono ?_
  rintro e w1 ⟨rfl, hb⟩
  have b1 : Below w.heap.size w w1 := Below.trans (by repeat (first | (with_reducible assumption) | (with_reducible exact Below.refl _ _) | (with_reducible refine Below.setCell ?_ (by first | omega | (simp <;> omega)) _) | refine below_drewN ?_ _ | refine Below.drew ?_ | refine Below.alloc ?_ (by first | omega | (simp <;> omega)) _)) (hb.mono (by simp))
  clear hb
  go_wp2_with fail
  refine (days_any _ (by omega) (by omega) _).mono ?_
  rintro e w2 ⟨rfl, rfl⟩
  rw [dayN_abs, Hn.out]
  go_wp2_with fail
  refine (split_any n hd.1 hd.2 _).mono ?_
  rintro e w3 ⟨rfl, rfl⟩
  have ma := marchA_bd n
  have jb := janFeb_bd n
  go_wp2_with fail
  refine (ysplit_any _ ma.1 ma.2 _).mono ?_
  rintro e w4 ⟨rfl, rfl⟩
  go_wp2_with fail
  go_ret
  exact ⟨ret_i64 (by unfold dayOf; rfl), b1⟩

set_option maxHeartbeats 400000 in
theorem tWeekday_any (ns : Nat) (ext : Int) (hn : ns < 1000000000) (he : 0 ≤ ext) (he2 : ext < 1000000000000) (w : World) :
    Calls Try.prog 68 #[.agg #[.int .u64 ns, .int .i64 ext, .pointer none]] w fun e w' => e = .returned (.int .i64 ((dayN ext + 4) % 7)) ∧ Below w.heap.size w w' := by
  obtain ⟨n, Hn⟩ : ∃ n, Hid (dayN ext = n) := ⟨_, rfl⟩
  have hd := dayN_bd ext he he2
  rw [Hn.out] at hd
  rw [Hn.out]
  go_enter Try.func68, Try.ntmps68
  go_wp2_with fail
  refine (absSec_any ns ext hn he he2 _).mono ?_
  rintro e w1 ⟨rfl, hb⟩
  have b1 : Below w.heap.size w w1 := Below.trans (by repeat (first | (with_reducible assumption) | (with_reducible exact Below.refl _ _) | (with_reducible refine Below.setCell ?_ (by first | omega | (simp <;> omega)) _) | refine below_drewN ?_ _ | refine Below.drew ?_ | refine Below.alloc ?_ (by first | omega | (simp <;> omega)) _)) (hb.mono (by simp))
  clear hb
  go_wp2_with fail
  refine (days_any _ (by omega) (by omega) _).mono ?_
  rintro e w2 ⟨rfl, rfl⟩
  rw [dayN_abs, Hn.out]
  go_wp2_with fail
  refine (weekday_any _ (by omega) (by omega) _).mono ?_
  rintro e w4 ⟨rfl, rfl⟩
  go_wp2_with fail
  go_ret
  exact ⟨ret_i64 (by omega), b1⟩

set_option maxHeartbeats 400000 in
theorem tHour_any (ns : Nat) (ext : Int) (hn : ns < 1000000000) (he : 0 ≤ ext) (he2 : ext < 1000000000000) (w : World) :
    Calls Try.prog 118 #[.agg #[.int .u64 ns, .int .i64 ext, .pointer none]] w fun e w' => e = .returned (.int .i64 (ext % 86400 / 3600)) ∧ Below w.heap.size w w' := by
  go_enter Try.func118, Try.ntmps118
  go_wp2_with fail
  refine (absSec_any ns ext hn he he2 _).mono ?_
  rintro e w1 ⟨rfl, hb⟩
  have b1 : Below w.heap.size w w1 := Below.trans (by repeat (first | (with_reducible assumption) | (with_reducible exact Below.refl _ _) | (with_reducible refine Below.setCell ?_ (by first | omega | (simp <;> omega)) _) | refine below_drewN ?_ _ | refine Below.drew ?_ | refine Below.alloc ?_ (by first | omega | (simp <;> omega)) _)) (hb.mono (by simp))
  clear hb
  go_wp2_with fail
  go_ret
  exact ⟨ret_i64 (by omega), b1⟩

set_option maxHeartbeats 400000 in
theorem tMinute_any (ns : Nat) (ext : Int) (hn : ns < 1000000000) (he : 0 ≤ ext) (he2 : ext < 1000000000000) (w : World) :
    Calls Try.prog 119 #[.agg #[.int .u64 ns, .int .i64 ext, .pointer none]] w fun e w' => e = .returned (.int .i64 (ext % 3600 / 60)) ∧ Below w.heap.size w w' := by
  go_enter Try.func119, Try.ntmps119
  go_wp2_with fail
  refine (absSec_any ns ext hn he he2 _).mono ?_
  rintro e w1 ⟨rfl, hb⟩
  have b1 : Below w.heap.size w w1 := Below.trans (by repeat (first | (with_reducible assumption) | (with_reducible exact Below.refl _ _) | (with_reducible refine Below.setCell ?_ (by first | omega | (simp <;> omega)) _) | refine below_drewN ?_ _ | refine Below.drew ?_ | refine Below.alloc ?_ (by first | omega | (simp <;> omega)) _)) (hb.mono (by simp))
  clear hb
  go_wp2_with fail
  go_ret
  exact ⟨ret_i64 (by omega), b1⟩

set_option maxHeartbeats 400000 in
theorem tSecond_any (ns : Nat) (ext : Int) (hn : ns < 1000000000) (he : 0 ≤ ext) (he2 : ext < 1000000000000) (w : World) :
    Calls Try.prog 121 #[.agg #[.int .u64 ns, .int .i64 ext, .pointer none]] w fun e w' => e = .returned (.int .i64 (ext % 60)) ∧ Below w.heap.size w w' := by
  go_enter Try.func121, Try.ntmps121
  go_wp2_with fail
  refine (absSec_any ns ext hn he he2 _).mono ?_
  rintro e w1 ⟨rfl, hb⟩
  have b1 : Below w.heap.size w w1 := Below.trans (by repeat (first | (with_reducible assumption) | (with_reducible exact Below.refl _ _) | (with_reducible refine Below.setCell ?_ (by first | omega | (simp <;> omega)) _) | refine below_drewN ?_ _ | refine Below.drew ?_ | refine Below.alloc ?_ (by first | omega | (simp <;> omega)) _)) (hb.mono (by simp))
  clear hb
  go_wp2_with fail
  go_ret
  exact ⟨ret_i64 (by omega), b1⟩

set_option maxHeartbeats 400000 in
theorem tClock_any (ns : Nat) (ext : Int) (hn : ns < 1000000000) (he : 0 ≤ ext) (he2 : ext < 1000000000000) (w : World) :
    Calls Try.prog 129 #[.agg #[.int .u64 ns, .int .i64 ext, .pointer none]] w fun e w' => e = .returned (.tuple #[.int .i64 (ext % 86400 / 3600), .int .i64 (ext % 3600 / 60), .int .i64 (ext % 60)]) ∧ Below w.heap.size w w' := by
  go_enter Try.func129, Try.ntmps129
  go_wp2_with fail
  refine (absSec_any ns ext hn he he2 _).mono ?_
  rintro e w1 ⟨rfl, hb⟩
  have b1 : Below w.heap.size w w1 := Below.trans (by repeat (first | (with_reducible assumption) | (with_reducible exact Below.refl _ _) | (with_reducible refine Below.setCell ?_ (by first | omega | (simp <;> omega)) _) | refine below_drewN ?_ _ | refine Below.drew ?_ | refine Below.alloc ?_ (by first | omega | (simp <;> omega)) _)) (hb.mono (by simp))
  clear hb
  go_wp2_with fail
  refine (clock_any _ (by omega) (by omega) _).mono ?_
  rintro e w4 ⟨rfl, rfl⟩
  go_wp2_with fail
  go_ret3
  exact ⟨tup3 (i64_eq (by omega)) (i64_eq (by omega)) (i64_eq (by omega)), b1⟩

set_option maxHeartbeats 400000 in
theorem date_any (n : Int) (hd : -719162 ≤ n ∧ n < 100000000) (w : World) :
    Calls Try.prog 131 #[.int .u64 (n + 106751991073400)] w fun e w' => e = .returned (.tuple #[.int .i64 (yearOf n), .int .i64 (monthOf n), .int .i64 (dayOf n)]) ∧ w = w' := by
  go_enter Try.func131, Try.ntmps131
  go_wp2_with fail
  refine (split_any n hd.1 hd.2 _).mono ?_
  rintro e w3 ⟨rfl, rfl⟩
  have ma := marchA_bd n
  have jb := janFeb_bd n
  go_wp2_with fail
  refine (ysplit_any _ ma.1 ma.2 _).mono ?_
  rintro e w4 ⟨rfl, rfl⟩
  go_wp2_with fail
  refine (janFeb_any n _).mono ?_
  rintro e w4 ⟨rfl, rfl⟩
  go_wp2_with fail
  refine (year_any n hd.1 hd.2 _).mono ?_
  rintro e w4 ⟨rfl, rfl⟩
  have mk : 3 ≤ (5 * marchA n + 461) / 153 ∧ (5 * marchA n + 461) / 153 ≤ 14 := by omega
  go_wp2_with fail
  refine (month_any _ _ (by omega) (by omega) jb.1 jb.2 _).mono ?_
  rintro e w4 ⟨rfl, rfl⟩
  go_wp2_with fail
  go_ret3
  exact ⟨tup3 (i64_eq rfl) (i64_eq (by unfold monthOf; rfl)) (i64_eq (by unfold dayOf; rfl)), rfl⟩

set_option maxHeartbeats 400000 in
theorem tDate_any (ns : Nat) (ext : Int) (hn : ns < 1000000000) (he : 0 ≤ ext) (he2 : ext < 1000000000000) (w : World) :
    Calls Try.prog 128 #[.agg #[.int .u64 ns, .int .i64 ext, .pointer none]] w fun e w' => e = .returned (.tuple #[.int .i64 (yearOf (dayN ext)), .int .i64 (monthOf (dayN ext)), .int .i64 (dayOf (dayN ext))]) ∧ Below w.heap.size w w' := by
  obtain ⟨n, Hn⟩ : ∃ n, Hid (dayN ext = n) := ⟨_, rfl⟩
  have hd := dayN_bd ext he he2
  rw [Hn.out] at hd
  rw [Hn.out]
  go_enter Try.func128, Try.ntmps128
  go_wp2_with fail
  refine (absSec_any ns ext hn he he2 _).mono ?_
  rintro e w1 ⟨rfl, hb⟩
  have b1 : Below w.heap.size w w1 := Below.trans (by repeat (first | (with_reducible assumption) | (with_reducible exact Below.refl _ _) | (with_reducible refine Below.setCell ?_ (by first | omega | (simp <;> omega)) _) | refine below_drewN ?_ _ | refine Below.drew ?_ | refine Below.alloc ?_ (by first | omega | (simp <;> omega)) _)) (hb.mono (by simp))
  clear hb
  go_wp2_with fail
  refine (days_any _ (by omega) (by omega) _).mono ?_
  rintro e w2 ⟨rfl, rfl⟩
  rw [dayN_abs, Hn.out]
  go_wp2_with fail
  refine (date_any n hd _).mono ?_
  rintro e w4 ⟨rfl, rfl⟩
  go_wp2_with fail
  go_ret3
  exact ⟨rfl, b1⟩

end Go.Proofs.Ytpgclepiagfgfaa
