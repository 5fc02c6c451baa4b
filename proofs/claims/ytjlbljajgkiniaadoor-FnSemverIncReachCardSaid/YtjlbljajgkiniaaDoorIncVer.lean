/- impl.VersionIncMajor, VersionIncPatch of a bare version. -/
import Derived.Test.YtjlbljajgkiniaaDoorIncMaj
import Derived.Test.YtjlbljajgkiniaaDoorIncPat
import Derived.Test.YtjlbljajgkiniaaDoorIncMinorB
namespace Go.Proofs.YtjlbljajgkiniaaDoor
open Go.RowKit
set_option linter.unusedVariables false
set_option linter.unusedSimpArgs false

set_option maxRecDepth 100000 in
set_option maxHeartbeats 2000000 in
theorem verIncMajor_any (a b c : Int) (a0 : 0 ≤ a) (a1 : a < 18446744073709551616) (b0 : 0 ≤ b) (b1 : b < 18446744073709551616) (c0' : 0 ≤ c) (c1' : c < 18446744073709551616) (x1 : a < 18446744073709551615) (w : World) (ht : Hid (Tab10 w)) :
    Calls Tryd.prog 23 #[.agg (plainC a b c ⟨#[]⟩ ⟨#[]⟩)] w fun e w' => e = .returned (.agg (plainC (a + 1) 0 0 ⟨#[]⟩ ⟨#[]⟩)) ∧ Below w.heap.size w w' := by
  go_enter Tryd.func23, Tryd.ntmps23
  go_wp2_with fail
  refine (version_any _ _ _ _ _ _).mono ?_
  rintro e w1 ⟨rfl, rfl⟩
  go_wp2_with fail
  refine (incMajor_any a b c a0 a1 b0 b1 c0' c1' x1 _ (tabBelow ht (by repeat (first | (with_reducible assumption) | (with_reducible refine Below.setCell ?_ (by first | omega | (simp <;> omega)) _) | (with_reducible exact Below.refl _ _) | refine below_drewN ?_ _ | refine Below.drew ?_ | refine Below.alloc ?_ (by first | omega | (simp <;> omega)) _)))).mono ?_
  rintro e w2 ⟨⟨s, rfl⟩, hb⟩
  have K : PlainAt w2 (w.heap.size + 1) zeroC := (hb.block _ (by first | omega | (simp <;> omega))).trans (((plainAt_last _ zeroC _ (by simp)).alloc _).alloc _)
  have B2 : Below w.heap.size w w2 := Below.trans (by repeat (first | (with_reducible assumption) | (with_reducible refine Below.setCell ?_ (by first | omega | (simp <;> omega)) _) | (with_reducible exact Below.refl _ _) | refine below_drewN ?_ _ | refine Below.drew ?_ | refine Below.alloc ?_ (by first | omega | (simp <;> omega)) _)) (hb.mono (by first | omega | (simp <;> omega)))
  have n2 : w.heap.size + 4 ≤ w2.heap.size := by have := hb.size; first | omega | (simp at this; omega)
  clear hb
  go_wp2_with fail
  refine (plainVersion_any _ (a + 1) 0 0 ⟨#[]⟩ ⟨#[]⟩ s _ (verAt_last _ _ _ (by simp))).mono ?_
  rintro e w3 ⟨rfl, hb⟩
  have K3 : PlainAt w3 (w.heap.size + 1) zeroC := (hb.block _ (by first | omega | (simp <;> omega))).trans (PlainAt.alloc K _)
  have B3 : Below w.heap.size w w3 := Below.trans (Below.alloc B2 (by omega) _) (hb.mono (by first | omega | (simp <;> omega)))
  have n3 : w.heap.size + 4 ≤ w3.heap.size := by have := hb.size; first | omega | (simp at this; omega)
  clear hb K
  have k0 : w3.cell? ⟨w.heap.size + 1, 0, none⟩ = some (.int .u64 0) := K3.cell 0
  have k1 : w3.cell? ⟨w.heap.size + 1, 1, none⟩ = some (.int .u64 0) := K3.cell 1
  have k2 : w3.cell? ⟨w.heap.size + 1, 2, none⟩ = some (.int .u64 0) := K3.cell 2
  have k3 : w3.cell? ⟨w.heap.size + 1, 3, none⟩ = some (.string ⟨#[]⟩) := K3.cell 3
  have k4 : w3.cell? ⟨w.heap.size + 1, 4, none⟩ = some (.string ⟨#[]⟩) := K3.cell 4
  have f0 := K3.free 0
  have f1 := K3.free 1
  have f2 := K3.free 2
  have f3 := K3.free 3
  have f4 := K3.free 4
  go_wp2_with fail
  refine bodyPost_ret (v := .agg (plainC (a + 1) 0 0 ⟨#[]⟩ ⟨#[]⟩)) (by simp [results, Tryd.results23, go_sem, k0, k1, k2, k3, k4]) rfl ⟨rfl, ?_⟩
  exact (by repeat (first | (with_reducible assumption) | (with_reducible refine Below.setCell ?_ (by first | omega | (simp <;> omega)) _) | (with_reducible exact Below.refl _ _) | refine below_drewN ?_ _ | refine Below.drew ?_ | refine Below.alloc ?_ (by first | omega | (simp <;> omega)) _))


set_option maxRecDepth 100000 in
set_option maxHeartbeats 2000000 in
theorem verIncPatch_any (a b c : Int) (a0 : 0 ≤ a) (a1 : a < 18446744073709551616) (b0 : 0 ≤ b) (b1 : b < 18446744073709551616) (c0' : 0 ≤ c) (c1' : c < 18446744073709551616) (x1 : c < 18446744073709551615) (w : World) (ht : Hid (Tab10 w)) :
    Calls Tryd.prog 21 #[.agg (plainC a b c ⟨#[]⟩ ⟨#[]⟩)] w fun e w' => e = .returned (.agg (plainC a b (c + 1) ⟨#[]⟩ ⟨#[]⟩)) ∧ Below w.heap.size w w' := by
  go_enter Tryd.func21, Tryd.ntmps21
  go_wp2_with fail
  refine (version_any _ _ _ _ _ _).mono ?_
  rintro e w1 ⟨rfl, rfl⟩
  go_wp2_with fail
  refine (incPatch_any a b c a0 a1 b0 b1 c0' c1' x1 _ (tabBelow ht (by repeat (first | (with_reducible assumption) | (with_reducible refine Below.setCell ?_ (by first | omega | (simp <;> omega)) _) | (with_reducible exact Below.refl _ _) | refine below_drewN ?_ _ | refine Below.drew ?_ | refine Below.alloc ?_ (by first | omega | (simp <;> omega)) _)))).mono ?_
  rintro e w2 ⟨⟨s, rfl⟩, hb⟩
  have K : PlainAt w2 (w.heap.size + 1) zeroC := (hb.block _ (by first | omega | (simp <;> omega))).trans (((plainAt_last _ zeroC _ (by simp)).alloc _).alloc _)
  have B2 : Below w.heap.size w w2 := Below.trans (by repeat (first | (with_reducible assumption) | (with_reducible refine Below.setCell ?_ (by first | omega | (simp <;> omega)) _) | (with_reducible exact Below.refl _ _) | refine below_drewN ?_ _ | refine Below.drew ?_ | refine Below.alloc ?_ (by first | omega | (simp <;> omega)) _)) (hb.mono (by first | omega | (simp <;> omega)))
  have n2 : w.heap.size + 4 ≤ w2.heap.size := by have := hb.size; first | omega | (simp at this; omega)
  clear hb
  go_wp2_with fail
  refine (plainVersion_any _ a b (c + 1) ⟨#[]⟩ ⟨#[]⟩ s _ (verAt_last _ _ _ (by simp))).mono ?_
  rintro e w3 ⟨rfl, hb⟩
  have K3 : PlainAt w3 (w.heap.size + 1) zeroC := (hb.block _ (by first | omega | (simp <;> omega))).trans (PlainAt.alloc K _)
  have B3 : Below w.heap.size w w3 := Below.trans (Below.alloc B2 (by omega) _) (hb.mono (by first | omega | (simp <;> omega)))
  have n3 : w.heap.size + 4 ≤ w3.heap.size := by have := hb.size; first | omega | (simp at this; omega)
  clear hb K
  have k0 : w3.cell? ⟨w.heap.size + 1, 0, none⟩ = some (.int .u64 0) := K3.cell 0
  have k1 : w3.cell? ⟨w.heap.size + 1, 1, none⟩ = some (.int .u64 0) := K3.cell 1
  have k2 : w3.cell? ⟨w.heap.size + 1, 2, none⟩ = some (.int .u64 0) := K3.cell 2
  have k3 : w3.cell? ⟨w.heap.size + 1, 3, none⟩ = some (.string ⟨#[]⟩) := K3.cell 3
  have k4 : w3.cell? ⟨w.heap.size + 1, 4, none⟩ = some (.string ⟨#[]⟩) := K3.cell 4
  have f0 := K3.free 0
  have f1 := K3.free 1
  have f2 := K3.free 2
  have f3 := K3.free 3
  have f4 := K3.free 4
  go_wp2_with fail
  refine bodyPost_ret (v := .agg (plainC a b (c + 1) ⟨#[]⟩ ⟨#[]⟩)) (by simp [results, Tryd.results21, go_sem, k0, k1, k2, k3, k4]) rfl ⟨rfl, ?_⟩
  exact (by repeat (first | (with_reducible assumption) | (with_reducible refine Below.setCell ?_ (by first | omega | (simp <;> omega)) _) | (with_reducible exact Below.refl _ _) | refine below_drewN ?_ _ | refine Below.drew ?_ | refine Below.alloc ?_ (by first | omega | (simp <;> omega)) _))

end Go.Proofs.YtjlbljajgkiniaaDoor
