/- pub/gotime in UTC: Truncate, IsZero; impl.moment, answer, schedule. -/
import Derived.Test.YtkhggefbkhdimaaGreatDoorTmZ
namespace Go.Proofs.YtkhggefbkhdimaaGreatDoor
open Go.RowKit
set_option linter.unusedVariables false
set_option linter.unusedSimpArgs false

set_option maxRecDepth 100000 in
set_option maxHeartbeats 400000 in
theorem divMin (ext : Int) (he : 0 ≤ ext) (he2 : ext < 600000000000) (w : World) :
    Calls Tryz.prog 216 #[.agg #[.int .u64 0, .int .i64 ext, .pointer none], .int .i64 60000000000] w fun e w' => ∃ q, e = .returned (.tuple #[q, .int .i64 (1000000000 * (ext % 60))]) ∧ Below w.heap.size w w' := by
  go_enter Tryz.func216, Tryz.ntmps216
  go_wp2_with fail
  refine (nsec_any w.heap.size 0 ext (by decide) _ (rowAt_last w _ _ _ rfl)).mono ?_
  rintro e w1 ⟨rfl, rfl⟩
  go_wp2_with fail
  refine (sec_any w.heap.size 0 ext (by decide) _ (rowAt_last w _ _ _ rfl)).mono ?_
  rintro e w1 ⟨rfl, rfl⟩
  go_wp2_with fail
  go_ret2
  exact ⟨_, tup2 rfl (i64_eq (by omega)), (by repeat (first | (with_reducible assumption) | (with_reducible exact Below.refl _ _) | (with_reducible refine Below.setCell ?_ (by first | omega | (simp <;> omega)) _) | refine below_drewN ?_ _ | refine Below.drew ?_ | refine Below.alloc ?_ (by first | omega | (simp <;> omega)) _))⟩

set_option maxHeartbeats 400000 in
theorem truncateMin (ext : Int) (he : 0 ≤ ext) (he2 : ext < 600000000000) (w : World) :
    Calls Tryz.prog 200 #[.agg #[.int .u64 0, .int .i64 ext, .pointer none], .int .i64 60000000000] w fun e w' => e = .returned (.agg #[.int .u64 0, .int .i64 (ext - ext % 60), .pointer none]) ∧ Below w.heap.size w w' := by
  go_enter Tryz.func200, Tryz.ntmps200
  go_wp2_with fail
  refine (stripMono_any w.heap.size 0 ext (by decide) _ ((rowAt_last w _ _ _ rfl).alloc _)).mono ?_
  rintro e w1 ⟨rfl, rfl⟩
  go_wp2_with fail
  refine (divMin ext he he2 _).mono ?_
  rintro e w1 ⟨q, rfl, hb⟩
  have R1 : TmAt w1 w.heap.size 0 ext := RowAt.below ((rowAt_last w _ _ _ rfl).alloc (.cells #[.int .u64 0, .int .i64 0, .pointer none] 95)) hb
  have Z1 : RowAt w1 (w.heap.size + 1) 95 #[.int .u64 0, .int .i64 0, .pointer none] := RowAt.below (rowAt_last (w.alloc (.cells #[.int .u64 0, .int .i64 ext, .pointer none] 95)) 95 #[.int .u64 0, .int .i64 0, .pointer none] _ (by simp)) hb
  have b1 : Below w.heap.size w w1 := Below.trans (by repeat (first | (with_reducible assumption) | (with_reducible exact Below.refl _ _) | (with_reducible refine Below.setCell ?_ (by first | omega | (simp <;> omega)) _) | refine below_drewN ?_ _ | refine Below.drew ?_ | refine Below.alloc ?_ (by first | omega | (simp <;> omega)) _)) (hb.mono (by simp; omega))
  clear hb
  have k0 : w1.cell? ⟨w.heap.size, 0, none⟩ = some (.int .u64 0) := R1.cell 0
  have k1 : w1.cell? ⟨w.heap.size, 1, none⟩ = some (.int .i64 ext) := R1.cell 1
  have k2 : w1.cell? ⟨w.heap.size, 2, none⟩ = some (.pointer none) := R1.cell 2
  obtain ⟨r, hr⟩ : ∃ r, Hid (1000000000 * (ext % 60) = r) := ⟨_, rfl⟩
  rw [hr.out]
  have r0 : 0 ≤ r := by have := hr.out; omega
  have r1 : r < 60000000000 := by have := hr.out; omega
  go_wp2_with fail
  refine (addSecs_any ext (-r) (-(ext % 60)) he (by omega) (by have := hr.out; omega) (by omega) (by omega) (by omega) _).mono ?_
  rintro e w2 ⟨rfl, hb2⟩
  have Z2 : RowAt w2 (w.heap.size + 1) 95 #[.int .u64 0, .int .i64 0, .pointer none] := Z1.below hb2
  have b2 : Below w.heap.size w w2 := b1.trans (hb2.mono b1.size)
  clear hb2 k0 k1 k2
  have c0 : w2.cell? ⟨w.heap.size + 1, 0, none⟩ = some (.int .u64 0) := Z2.cell 0
  have c1 : w2.cell? ⟨w.heap.size + 1, 1, none⟩ = some (.int .i64 0) := Z2.cell 1
  have c2 : w2.cell? ⟨w.heap.size + 1, 2, none⟩ = some (.pointer none) := Z2.cell 2
  have f0 := Z2.free 0
  have f1 := Z2.free 1
  have f2 := Z2.free 2
  have lt2 := Z2.lt
  go_wp2_with fail
  refine bodyPost_ret (v := .agg #[.int .u64 0, .int .i64 (ext + -(ext % 60)), .pointer none]) (by simp [results, Tryz.results200, go_sem, c0, c1, c2, f0, f1, f2]) rfl ⟨ret_agg (by first | (congr 3 <;> omega) | simp), ?_⟩
  exact (by repeat (first | (with_reducible assumption) | (with_reducible exact Below.refl _ _) | (with_reducible refine Below.setCell ?_ (by first | omega | (simp <;> omega)) _) | refine below_drewN ?_ _ | refine Below.drew ?_ | refine Below.alloc ?_ (by first | omega | (simp <;> omega)) _))

set_option maxRecDepth 100000 in
set_option maxHeartbeats 400000 in
theorem divSec (ext : Int) (he : 0 ≤ ext) (he2 : ext < 600000000000) (w : World) :
    Calls Tryz.prog 216 #[.agg #[.int .u64 0, .int .i64 ext, .pointer none], .int .i64 1000000000] w fun e w' => ∃ q, e = .returned (.tuple #[q, .int .i64 (0)]) ∧ Below w.heap.size w w' := by
  go_enter Tryz.func216, Tryz.ntmps216
  go_wp2_with fail
  refine (nsec_any w.heap.size 0 ext (by decide) _ (rowAt_last w _ _ _ rfl)).mono ?_
  rintro e w1 ⟨rfl, rfl⟩
  go_wp2_with fail
  refine (sec_any w.heap.size 0 ext (by decide) _ (rowAt_last w _ _ _ rfl)).mono ?_
  rintro e w1 ⟨rfl, rfl⟩
  go_wp2_with fail
  go_ret2
  exact ⟨_, tup2 rfl (i64_eq (by omega)), (by repeat (first | (with_reducible assumption) | (with_reducible exact Below.refl _ _) | (with_reducible refine Below.setCell ?_ (by first | omega | (simp <;> omega)) _) | refine below_drewN ?_ _ | refine Below.drew ?_ | refine Below.alloc ?_ (by first | omega | (simp <;> omega)) _))⟩

set_option maxHeartbeats 400000 in
theorem truncateSec (ext : Int) (he : 0 ≤ ext) (he2 : ext < 600000000000) (w : World) :
    Calls Tryz.prog 200 #[.agg #[.int .u64 0, .int .i64 ext, .pointer none], .int .i64 1000000000] w fun e w' => e = .returned (.agg #[.int .u64 0, .int .i64 (ext), .pointer none]) ∧ Below w.heap.size w w' := by
  go_enter Tryz.func200, Tryz.ntmps200
  go_wp2_with fail
  refine (stripMono_any w.heap.size 0 ext (by decide) _ ((rowAt_last w _ _ _ rfl).alloc _)).mono ?_
  rintro e w1 ⟨rfl, rfl⟩
  go_wp2_with fail
  refine (divSec ext he he2 _).mono ?_
  rintro e w1 ⟨q, rfl, hb⟩
  have R1 : TmAt w1 w.heap.size 0 ext := RowAt.below ((rowAt_last w _ _ _ rfl).alloc (.cells #[.int .u64 0, .int .i64 0, .pointer none] 95)) hb
  have Z1 : RowAt w1 (w.heap.size + 1) 95 #[.int .u64 0, .int .i64 0, .pointer none] := RowAt.below (rowAt_last (w.alloc (.cells #[.int .u64 0, .int .i64 ext, .pointer none] 95)) 95 #[.int .u64 0, .int .i64 0, .pointer none] _ (by simp)) hb
  have b1 : Below w.heap.size w w1 := Below.trans (by repeat (first | (with_reducible assumption) | (with_reducible exact Below.refl _ _) | (with_reducible refine Below.setCell ?_ (by first | omega | (simp <;> omega)) _) | refine below_drewN ?_ _ | refine Below.drew ?_ | refine Below.alloc ?_ (by first | omega | (simp <;> omega)) _)) (hb.mono (by simp; omega))
  clear hb
  have k0 : w1.cell? ⟨w.heap.size, 0, none⟩ = some (.int .u64 0) := R1.cell 0
  have k1 : w1.cell? ⟨w.heap.size, 1, none⟩ = some (.int .i64 ext) := R1.cell 1
  have k2 : w1.cell? ⟨w.heap.size, 2, none⟩ = some (.pointer none) := R1.cell 2
  go_wp2_with fail
  refine (addSecs_any ext 0 0 he (by omega) (by omega) (by omega) (by omega) (by omega) _).mono ?_
  rintro e w2 ⟨rfl, hb2⟩
  have Z2 : RowAt w2 (w.heap.size + 1) 95 #[.int .u64 0, .int .i64 0, .pointer none] := Z1.below hb2
  have b2 : Below w.heap.size w w2 := b1.trans (hb2.mono b1.size)
  clear hb2 k0 k1 k2
  have c0 : w2.cell? ⟨w.heap.size + 1, 0, none⟩ = some (.int .u64 0) := Z2.cell 0
  have c1 : w2.cell? ⟨w.heap.size + 1, 1, none⟩ = some (.int .i64 0) := Z2.cell 1
  have c2 : w2.cell? ⟨w.heap.size + 1, 2, none⟩ = some (.pointer none) := Z2.cell 2
  have f0 := Z2.free 0
  have f1 := Z2.free 1
  have f2 := Z2.free 2
  have lt2 := Z2.lt
  go_wp2_with fail
  refine bodyPost_ret (v := .agg #[.int .u64 0, .int .i64 (ext + 0), .pointer none]) (by simp [results, Tryz.results200, go_sem, c0, c1, c2, f0, f1, f2]) rfl ⟨ret_agg (by first | (congr 3 <;> omega) | simp), ?_⟩
  exact (by repeat (first | (with_reducible assumption) | (with_reducible exact Below.refl _ _) | (with_reducible refine Below.setCell ?_ (by first | omega | (simp <;> omega)) _) | refine below_drewN ?_ _ | refine Below.drew ?_ | refine Below.alloc ?_ (by first | omega | (simp <;> omega)) _))

set_option maxHeartbeats 400000 in
theorem isZeroNo (ext : Int) (hz : 0 < ext) (w : World) :
    Calls Tryz.prog 86 #[.agg #[.int .u64 0, .int .i64 ext, .pointer none]] w fun e w' => e = .returned (.bool false) ∧ Below w.heap.size w w' := by
  have hq : (ext == 0) = false := by simp; omega
  go_enter Tryz.func86, Tryz.ntmps86
  go_wp2_with fail
  go_ret
  exact ⟨rfl, (by repeat (first | (with_reducible assumption) | (with_reducible exact Below.refl _ _) | (with_reducible refine Below.setCell ?_ (by first | omega | (simp <;> omega)) _) | refine below_drewN ?_ _ | refine Below.drew ?_ | refine Below.alloc ?_ (by first | omega | (simp <;> omega)) _))⟩

set_option maxHeartbeats 400000 in
theorem isZeroYes  (w : World) :
    Calls Tryz.prog 86 #[.agg #[.int .u64 0, .int .i64 0, .pointer none]] w fun e w' => e = .returned (.bool true) ∧ Below w.heap.size w w' := by
  go_enter Tryz.func86, Tryz.ntmps86
  go_wp2_with fail
  go_ret
  exact ⟨rfl, (by repeat (first | (with_reducible assumption) | (with_reducible exact Below.refl _ _) | (with_reducible refine Below.setCell ?_ (by first | omega | (simp <;> omega)) _) | refine below_drewN ?_ _ | refine Below.drew ?_ | refine Below.alloc ?_ (by first | omega | (simp <;> omega)) _))⟩

set_option maxHeartbeats 400000 in
theorem tUnix_any (ns : Nat) (ext : Int) (hn : ns < 1000000000) (he : 0 ≤ ext) (he2 : ext < 600000000000) (w : World) :
    Calls Tryz.prog 114 #[.agg #[.int .u64 ns, .int .i64 ext, .pointer none]] w fun e w' => e = .returned (.int .i64 (ext - 62135596800)) ∧ Below w.heap.size w w' := by
  go_enter Tryz.func114, Tryz.ntmps114
  go_wp2_with fail
  refine (unixSec_any w.heap.size ns ext hn he (by omega) _ (rowAt_last w _ _ _ rfl)).mono ?_
  rintro e w1 ⟨rfl, rfl⟩
  go_wp2_with fail
  go_ret
  exact ⟨rfl, (by repeat (first | (with_reducible assumption) | (with_reducible exact Below.refl _ _) | (with_reducible refine Below.setCell ?_ (by first | omega | (simp <;> omega)) _) | refine below_drewN ?_ _ | refine Below.drew ?_ | refine Below.alloc ?_ (by first | omega | (simp <;> omega)) _))⟩

set_option maxHeartbeats 400000 in
theorem tNanosecond_any (ns : Nat) (ext : Int) (hn : ns < 1000000000) (he : 0 ≤ ext) (he2 : ext < 600000000000) (w : World) :
    Calls Tryz.prog 115 #[.agg #[.int .u64 ns, .int .i64 ext, .pointer none]] w fun e w' => e = .returned (.int .i64 ns) ∧ Below w.heap.size w w' := by
  go_enter Tryz.func115, Tryz.ntmps115
  go_wp2_with fail
  refine (nsec_any w.heap.size ns ext hn _ (rowAt_last w _ _ _ rfl)).mono ?_
  rintro e w1 ⟨rfl, rfl⟩
  go_wp2_with fail
  go_ret
  exact ⟨rfl, (by repeat (first | (with_reducible assumption) | (with_reducible exact Below.refl _ _) | (with_reducible refine Below.setCell ?_ (by first | omega | (simp <;> omega)) _) | refine below_drewN ?_ _ | refine Below.drew ?_ | refine Below.alloc ?_ (by first | omega | (simp <;> omega)) _))⟩

end Go.Proofs.YtkhggefbkhdimaaGreatDoor
