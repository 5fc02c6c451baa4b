/- Date and AddDate where Next calls them. -/
import Derived.Test.YtkhggefbkhdimaaGreatDoorTmD
import Derived.Test.YtkhggefbkhdimaaGreatDoorTo
namespace Go.Proofs.YtkhggefbkhdimaaGreatDoor
open Go.RowKit
set_option linter.unusedVariables false
set_option linter.unusedSimpArgs false

theorem yr_bd1 {u : Int} (h0 : 0 ≤ u) (h1 : u < 319000000000) : 1 ≤ yearOf (dayN u) ∧ yearOf (dayN u) ≤ 20000 := year_bd _ (by unfold dayN; omega) (by unfold dayN; omega)
theorem mon0_bd {u : Int} (h0 : 0 ≤ u) : 0 ≤ mid (mon0 u) ∧ mid (mon0 u) ≤ u := by
  have h := isDate_u u
  have i := mon_in u
  have y := (mon0_date u).inYear
  have yb : 1 ≤ yr u := by
    have a := h.inYear
    unfold ystart dayN at a; omega
  have s := ystart_mono yb
  have e : ystart 1 = -719162 := by decide
  unfold mid; unfold dayN at *; omega
theorem ret_tm {a b : Int} (h : a = b) : Ending.returned (.agg #[.int .u64 0, .int .i64 a, .pointer none]) = .returned (.agg #[.int .u64 0, .int .i64 b, .pointer none]) := by rw [h]
theorem dayNo_add (y m d k : Int) : dayNo y m (d + k) = dayNo y m d + k := by unfold dayNo; omega
theorem isD (n : Int) : n = dayNo (yearOf n) (monthOf n) (dayOf n) := (isDate_of n).2.2.2.2

theorem dateMon (u : Int) (h0 : 0 ≤ u) (h1 : u < 319000000000) (l : Nat) (w : World) (hl : UtcAt w l) :
    Calls Tryz.prog 195 #[.int .i64 (yearOf (dayN u)), .int .i64 (monthOf (dayN u)), .int .i64 1, .int .i64 0, .int .i64 0, .int .i64 0, .int .i64 0, .pointer (some ⟨l, 0, none⟩)] w fun e w' => e = .returned (.agg #[.int .u64 0, .int .i64 (mid (mon0 u)), .pointer none]) ∧ Below w.heap.size w w' := by
  have yb := yr_bd1 h0 h1
  have mb := month_bd (dayN u)
  have db := day_bd (dayN u)
  refine (dateU_any _ _ 1 0 0 0 (yearOf (dayN u)) (monthOf (dayN u)) (Or.inl ⟨by omega, rfl, rfl⟩) (by omega) (by omega) (by omega) (by omega) (by omega) (by omega) (by omega) (by omega) (by omega) (by omega) (by omega) l w hl).mono ?_
  rintro e w' ⟨rfl, hb⟩
  exact ⟨ret_tm (by show 86400 * (dayNo (yr u) (monthOf (dayN u)) 1 + 719162) + 3600 * 0 + 60 * 0 + 0 = 86400 * (dayNo (yr u) (monthOf (dayN u)) 1 + 719162); omega), hb⟩
theorem dateDay (u : Int) (h0 : 0 ≤ u) (h1 : u < 319000000000) (l : Nat) (w : World) (hl : UtcAt w l) :
    Calls Tryz.prog 195 #[.int .i64 (yearOf (dayN u)), .int .i64 (monthOf (dayN u)), .int .i64 (dayOf (dayN u)), .int .i64 0, .int .i64 0, .int .i64 0, .int .i64 0, .pointer (some ⟨l, 0, none⟩)] w fun e w' => e = .returned (.agg #[.int .u64 0, .int .i64 (mid (dayN u)), .pointer none]) ∧ Below w.heap.size w w' := by
  have yb := yr_bd1 h0 h1
  have mb := month_bd (dayN u)
  have db := day_bd (dayN u)
  refine (dateU_any _ _ (dayOf (dayN u)) 0 0 0 (yearOf (dayN u)) (monthOf (dayN u)) (Or.inl ⟨by omega, rfl, rfl⟩) (by omega) (by omega) (by omega) (by omega) (by omega) (by omega) (by omega) (by omega) (by omega) (by omega) (by omega) l w hl).mono ?_
  rintro e w' ⟨rfl, hb⟩
  exact ⟨ret_tm (by have := isD (dayN u); unfold mid; omega), hb⟩
theorem dateHour (u : Int) (h0 : 0 ≤ u) (h1 : u < 319000000000) (l : Nat) (w : World) (hl : UtcAt w l) :
    Calls Tryz.prog 195 #[.int .i64 (yearOf (dayN u)), .int .i64 (monthOf (dayN u)), .int .i64 (dayOf (dayN u)), .int .i64 (u % 86400 / 3600), .int .i64 0, .int .i64 0, .int .i64 0, .pointer (some ⟨l, 0, none⟩)] w fun e w' => e = .returned (.agg #[.int .u64 0, .int .i64 (u - u % 3600), .pointer none]) ∧ Below w.heap.size w w' := by
  have yb := yr_bd1 h0 h1
  have mb := month_bd (dayN u)
  have db := day_bd (dayN u)
  refine (dateU_any _ _ (dayOf (dayN u)) (u % 86400 / 3600) 0 0 (yearOf (dayN u)) (monthOf (dayN u)) (Or.inl ⟨by omega, rfl, rfl⟩) (by omega) (by omega) (by omega) (by omega) (by omega) (by omega) (by omega) (by omega) (by omega) (by omega) (by omega) l w hl).mono ?_
  rintro e w' ⟨rfl, hb⟩
  exact ⟨ret_tm (by have := isD (dayN u); have e : u / 86400 - 719162 = dayN u := rfl; omega), hb⟩
theorem addMon (u : Int) (h0 : 0 ≤ u) (h1 : u < 319000000000) (w : World) :
    Calls Tryz.prog 196 #[.agg #[.int .u64 0, .int .i64 (mid (mon0 u)), .pointer none], .int .i64 0, .int .i64 1, .int .i64 0] w fun e w' => e = .returned (.agg #[.int .u64 0, .int .i64 (mid (mon1 u)), .pointer none]) ∧ Below w.heap.size w w' := by
  have b := mon0_bd h0
  have d := date_is (mon0_date u)
  have mb := month_bd (dayN u)
  refine (addDate_any (mid (mon0 u)) 1 0 (nextY u) (nextM u) b.1 (by omega) (Or.inr rfl) (Or.inl rfl) (mon0 u) (Lib.hid (dayN_mid _)) (Lib.hid ?_) w).mono ?_
  · rw [d.1, d.2.1]
    unfold nextY nextM
    by_cases h : monthOf (dayN u) = 12
    · right; simp [h]
    · left; simp [h]; omega
  · rintro e w' ⟨rfl, hb⟩
    refine ⟨ret_tm (by rw [d.2.2, Int.add_zero]; show _ = mid (dayNo (nextY u) (nextM u) 1); unfold mid; omega), hb⟩
theorem addDay (n : Int) (h0 : 0 ≤ mid n) (h1 : mid n < 319000000000) (w : World) :
    Calls Tryz.prog 196 #[.agg #[.int .u64 0, .int .i64 (mid n), .pointer none], .int .i64 0, .int .i64 0, .int .i64 1] w fun e w' => e = .returned (.agg #[.int .u64 0, .int .i64 (mid n + 86400), .pointer none]) ∧ Below w.heap.size w w' := by
  have mb := month_bd n
  refine (addDate_any (mid n) 0 1 (yearOf n) (monthOf n) h0 (by omega) (Or.inl rfl) (Or.inr rfl) n (Lib.hid (dayN_mid _)) (Lib.hid (Or.inl ⟨by omega, rfl, by omega⟩)) w).mono ?_
  rintro e w' ⟨rfl, hb⟩
  refine ⟨ret_tm (by have := isD n; rw [dayNo_add]; unfold mid; omega), hb⟩
end Go.Proofs.YtkhggefbkhdimaaGreatDoor
