/- impl.VersionIncMinor, spec.IncMinor. -/
import Derived.Test.YtjlbljajgkiniaaDoorIncMinor
namespace Go.Proofs.YtjlbljajgkiniaaDoor
open Go.RowKit
set_option linter.unusedVariables false
set_option linter.unusedSimpArgs false

set_option maxHeartbeats 400000 in
theorem metadata_any (a b c : Int) (p m o : ByteArray) (w : World) :
    Calls Tryd.prog 53 #[.agg (verC a b c p m o)] w fun e w' => e = .returned (.string m) ∧ w' = w.alloc (.cells (verC a b c p m o) 61) := by
  go_enter Tryd.func53, Tryd.ntmps53
  go_wp2_with fail
  go_ret
  exact ⟨rfl, rfl⟩

set_option maxRecDepth 100000 in
set_option maxHeartbeats 2000000 in
theorem plainVersion_any (g : Nat) (a b c : Int) (p m o : ByteArray) (w : World) (hg : VerAt w g (verC a b c p m o)) :
    Calls Tryd.prog 34 #[.pointer (some ⟨g, 0, none⟩)] w fun e w' => e = .returned (.agg (plainC a b c p m)) ∧ Below w.heap.size w w' := by
  have c0 : w.cell? ⟨g, 0, none⟩ = some (.int .u64 a) := hg.cell 0
  have c1 : w.cell? ⟨g, 1, none⟩ = some (.int .u64 b) := hg.cell 1
  have c2 : w.cell? ⟨g, 2, none⟩ = some (.int .u64 c) := hg.cell 2
  have c3 : w.cell? ⟨g, 3, none⟩ = some (.string p) := hg.cell 3
  have c4 : w.cell? ⟨g, 4, none⟩ = some (.string m) := hg.cell 4
  have c5 : w.cell? ⟨g, 5, none⟩ = some (.string o) := hg.cell 5
  go_enter Tryd.func34, Tryd.ntmps34
  go_wp2_with fail
  go_region_held3 (fun w' => w'.cell? ⟨g, 0, none⟩ = some (.int .u64 a) ∧ w'.cell? ⟨g, 1, none⟩ = some (.int .u64 b) ∧ w'.cell? ⟨g, 2, none⟩ = some (.int .u64 c) ∧ w'.cell? ⟨g, 3, none⟩ = some (.string p) ∧ w'.cell? ⟨g, 4, none⟩ = some (.string m) ∧ w'.cell? ⟨g, 5, none⟩ = some (.string o)) (first | (refine ⟨?_, ?_, ?_, ?_, ?_, ?_⟩ <;> (repeat (first | assumption | (with_reducible refine keepD ?_) | (with_reducible refine keepN ?_) | (with_reducible refine keepV ?_)))) | go_keep)
    (first | (go_at_call 49; refine (major_any _ _ _ _ _ _ _).mono ?_; rintro e w' ⟨rfl, rfl⟩) | (go_at_call 50; refine (minor_any _ _ _ _ _ _ _).mono ?_; rintro e w' ⟨rfl, rfl⟩) | (go_at_call 51; refine (patch_any _ _ _ _ _ _ _).mono ?_; rintro e w' ⟨rfl, rfl⟩) | (go_at_call 52; refine (pre_any _ _ _ _ _ _ _).mono ?_; rintro e w' ⟨rfl, rfl⟩) | (go_at_call 53; refine (metadata_any _ _ _ _ _ _ _).mono ?_; rintro e w' ⟨rfl, rfl⟩))
  go_wp2_with fail
  refine bodyPost_ret (v := .agg (plainC a b c p m)) (by simp [results, Tryd.results34, go_sem]) rfl ⟨rfl, ?_⟩
  exact (by repeat (first | assumption | exact Below.refl _ _ | refine below_drewN ?_ _ | refine Below.drew ?_ | refine Below.alloc ?_ (by first | omega | (simp <;> omega)) _))

theorem PlainAt.free {w : World} {g : Nat} {cs : Array Value} (h : PlainAt w g cs) (i : Nat) : w.frozen? ⟨g, i, none⟩ = false := by simp [World.frozen?, show w.heap[g]? = _ from h]

abbrev zeroC : Array Value := #[.int .u64 0, .int .u64 0, .int .u64 0, .string ⟨#[]⟩, .string ⟨#[]⟩]

set_option maxRecDepth 100000 in
set_option maxHeartbeats 2000000 in
theorem verIncMinor_any (a b c : Int) (p m : ByteArray) (a0 : 0 ≤ a) (a1 : a < 18446744073709551616) (b0 : 0 ≤ b) (b1 : b < 18446744073709551615) (w : World) (ht : Hid (Tab10 w)) :
    Calls Tryd.prog 22 #[.agg (plainC a b c p m)] w fun e w' => e = .returned (.agg (plainC a (b + 1) 0 ⟨#[]⟩ ⟨#[]⟩)) ∧ Below w.heap.size w w' := by
  go_enter Tryd.func22, Tryd.ntmps22
  go_wp2_with fail
  refine (version_any _ _ _ _ _ _).mono ?_
  rintro e w1 ⟨rfl, rfl⟩
  go_wp2_with fail
  refine (incMinor_any a b c p m a0 a1 b0 b1 _ (tabBelow ht (by repeat (first | (with_reducible assumption) | (with_reducible refine Below.setCell ?_ (by first | omega | (simp <;> omega)) _) | (with_reducible exact Below.refl _ _) | refine below_drewN ?_ _ | refine Below.drew ?_ | refine Below.alloc ?_ (by first | omega | (simp <;> omega)) _)))).mono ?_
  rintro e w2 ⟨⟨s, rfl⟩, hb⟩
  have K : PlainAt w2 (w.heap.size + 1) zeroC := (hb.block _ (by first | omega | (simp <;> omega))).trans (((plainAt_last _ zeroC _ (by simp)).alloc _).alloc _)
  have B2 : Below w.heap.size w w2 := Below.trans (by repeat (first | (with_reducible assumption) | (with_reducible refine Below.setCell ?_ (by first | omega | (simp <;> omega)) _) | (with_reducible exact Below.refl _ _) | refine below_drewN ?_ _ | refine Below.drew ?_ | refine Below.alloc ?_ (by first | omega | (simp <;> omega)) _)) (hb.mono (by first | omega | (simp <;> omega)))
  have n2 : w.heap.size + 4 ≤ w2.heap.size := by have := hb.size; first | omega | (simp at this; omega)
  clear hb
  go_wp2_with fail
  refine (plainVersion_any _ a (b + 1) 0 ⟨#[]⟩ ⟨#[]⟩ s _ (verAt_last _ _ _ (by simp))).mono ?_
  rintro e w3 ⟨rfl, hb⟩
  have K3 : PlainAt w3 (w.heap.size + 1) zeroC := (hb.block _ (by first | omega | (simp <;> omega))).trans (PlainAt.alloc K _)
  have B3 : Below w.heap.size w w3 := Below.trans (Below.alloc B2 (by omega) _) (hb.mono (by first | omega | (simp <;> omega)))
  have n3 : w.heap.size + 4 ≤ w3.heap.size := by have := hb.size; first | omega | (simp at this; omega)
  clear hb K
  have k0 : w3.cell? ⟨w.heap.size + 1, 0, none⟩ = some (.int .u64 0) := K3.cell 0
  have k1 : w3.cell? ⟨w.heap.size + 1, 1, none⟩ = some (.int .u64 0) := K3.cell 1
  have k2 : w3.cell? ⟨w.heap.size + 1, 2, none⟩ = some (.int .u64 0) := K3.cell 2
  have k3 : w3.cell? ⟨w.heap.size + 1, 3, none⟩ = some (.string ⟨#[]⟩) := K3.cell 3
  have k4 : w3.cell? ⟨w.heap.size + 1, 4, none⟩ = some (.string ⟨#[]⟩) := K3.cell 4
  have f0 := K3.free 0
  have f1 := K3.free 1
  have f2 := K3.free 2
  have f3 := K3.free 3
  have f4 := K3.free 4
  go_wp2_with fail
  refine bodyPost_ret (v := .agg (plainC a (b + 1) 0 ⟨#[]⟩ ⟨#[]⟩)) (by simp [results, Tryd.results22, go_sem, k0, k1, k2, k3, k4]) rfl ⟨rfl, ?_⟩
  exact (by repeat (first | (with_reducible assumption) | (with_reducible refine Below.setCell ?_ (by first | omega | (simp <;> omega)) _) | (with_reducible exact Below.refl _ _) | refine below_drewN ?_ _ | refine Below.drew ?_ | refine Below.alloc ?_ (by first | omega | (simp <;> omega)) _))

end Go.Proofs.YtjlbljajgkiniaaDoor
