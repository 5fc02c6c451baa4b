/- spec.Fits, impl.VersionText, impl.StrictVersion. -/
import Derived.Test.YtbipmpojmfbekaaDoorSpVerText
import Derived.Test.YtbipmpojmfbekaaDoorStrict
namespace Go.Proofs.YtbipmpojmfbekaaDoor
open Go.RowKit
set_option linter.unusedVariables false
set_option linter.unusedSimpArgs false

theorem fits_any (a b c : Int) (p m : ByteArray) (a0 : 0 ≤ a) (a1 : a < 18446744073709551616) (b0 : 0 ≤ b) (b1 : b < 18446744073709551616) (c0' : 0 ≤ c) (c1' : c < 18446744073709551616) (hp : p.size ≤ 2147483647) (hm : m.size ≤ 2147483647) (w : World) :
    Calls Tryd.prog 6 #[.agg (plainC a b c p m)] w (fun e w' => e = .returned (.bool (decide ((textB a b c p m).size ≤ 256))) ∧ Below w.heap.size w w') := by
  have hS := fun W => spText_any a b c p m a0 a1 b0 b1 c0' c1' hp hm W
  generalize textB a b c p m = T at *
  go_enter Tryd.func6, Tryd.ntmps6
  go_wp2_with fail
  refine (hS _).mono ?_
  rintro e w1 ⟨rfl, hb⟩
  have bk : Below w.heap.size w w1 := Below.trans (by repeat (first | (with_reducible assumption) | (with_reducible refine Below.setCell ?_ (by first | omega | (simp <;> omega)) _) | (with_reducible exact Below.refl _ _) | refine below_drewN ?_ _ | refine Below.drew ?_ | refine Below.alloc ?_ (by first | omega | (simp <;> omega)) _)) (hb.mono (by simp))
  go_wp2_with fail
  go_ret
  exact ⟨ret_bool (by congr 1; apply propext; omega), bk⟩

set_option maxHeartbeats 400000 in
theorem metadata_any (a b c : Int) (p m o : ByteArray) (w : World) :
    Calls Tryd.prog 36 #[.agg (verC a b c p m o)] w fun e w' => e = .returned (.string m) ∧ w' = w.alloc (.cells (verC a b c p m o) 46) := by
  go_enter Tryd.func36, Tryd.ntmps36
  go_wp2_with fail
  go_ret
  exact ⟨rfl, rfl⟩

set_option maxRecDepth 100000 in
set_option maxHeartbeats 2000000 in
theorem plainVersionC_any (g : Nat) (a b c : Int) (p m o : ByteArray) (w : World) (c0 : w.cell? ⟨g, 0, none⟩ = some (.int .u64 a)) (c1 : w.cell? ⟨g, 1, none⟩ = some (.int .u64 b)) (c2 : w.cell? ⟨g, 2, none⟩ = some (.int .u64 c)) (c3 : w.cell? ⟨g, 3, none⟩ = some (.string p)) (c4 : w.cell? ⟨g, 4, none⟩ = some (.string m)) (c5 : w.cell? ⟨g, 5, none⟩ = some (.string o)) :
    Calls Tryd.prog 20 #[.pointer (some ⟨g, 0, none⟩)] w fun e w' => e = .returned (.agg (plainC a b c p m)) ∧ Below w.heap.size w w' := by
  go_enter Tryd.func20, Tryd.ntmps20
  go_wp2_with fail
  go_region_held3 (fun w' => w'.cell? ⟨g, 0, none⟩ = some (.int .u64 a) ∧ w'.cell? ⟨g, 1, none⟩ = some (.int .u64 b) ∧ w'.cell? ⟨g, 2, none⟩ = some (.int .u64 c) ∧ w'.cell? ⟨g, 3, none⟩ = some (.string p) ∧ w'.cell? ⟨g, 4, none⟩ = some (.string m) ∧ w'.cell? ⟨g, 5, none⟩ = some (.string o)) (first | (refine ⟨?_, ?_, ?_, ?_, ?_, ?_⟩ <;> (repeat (first | assumption | (with_reducible refine keepD ?_) | (with_reducible refine keepN ?_) | (with_reducible refine keepV ?_)))) | go_keep)
    (first | (go_at_call 32; refine (major_any _ _ _ _ _ _ _).mono ?_; rintro e w' ⟨rfl, rfl⟩) | (go_at_call 33; refine (minor_any _ _ _ _ _ _ _).mono ?_; rintro e w' ⟨rfl, rfl⟩) | (go_at_call 34; refine (patch_any _ _ _ _ _ _ _).mono ?_; rintro e w' ⟨rfl, rfl⟩) | (go_at_call 35; refine (pre_any _ _ _ _ _ _ _).mono ?_; rintro e w' ⟨rfl, rfl⟩) | (go_at_call 36; refine (metadata_any _ _ _ _ _ _ _).mono ?_; rintro e w' ⟨rfl, rfl⟩))
  go_wp2_with fail
  refine bodyPost_ret (v := .agg (plainC a b c p m)) (by simp [results, Tryd.results20, go_sem]) rfl ⟨rfl, ?_⟩
  exact (by repeat (first | assumption | exact Below.refl _ _ | refine below_drewN ?_ _ | refine Below.drew ?_ | refine Below.alloc ?_ (by first | omega | (simp <;> omega)) _))


theorem PlainAt.free {w : World} {g : Nat} {cs : Array Value} (h : PlainAt w g cs) (i : Nat) : w.frozen? ⟨g, i, none⟩ = false := by simp [World.frozen?, show w.heap[g]? = _ from h]

abbrev zeroC : Array Value := #[.int .u64 0, .int .u64 0, .int .u64 0, .string ⟨#[]⟩, .string ⟨#[]⟩]

theorem verText_any (a b c : Int) (p m : ByteArray) (a0 : 0 ≤ a) (a1 : a < 18446744073709551616) (b0 : 0 ≤ b) (b1 : b < 18446744073709551616) (c0' : 0 ≤ c) (c1' : c < 18446744073709551616) (hp : p.size ≤ 2147483647) (hm : m.size ≤ 2147483647) (w : World) (ht : Hid (Tab10 w)) :
    Calls Tryd.prog 8 #[.agg (plainC a b c p m)] w (fun e w' => e = .returned (.string (textB a b c p m)) ∧ Below w.heap.size w w') := by
  have hS := fun W => verString_any a b c p m ⟨#[]⟩ a0 a1 b0 b1 c0' c1' hp hm W
  generalize textB a b c p m = T at *
  go_enter Tryd.func8, Tryd.ntmps8
  go_wp2_with fail
  refine (version_any _ _ _ _ _ _).mono ?_
  rintro e w1 ⟨rfl, rfl⟩
  go_wp2_with fail
  refine (hS _ (tabBelow ht (by repeat (first | (with_reducible assumption) | (with_reducible refine Below.setCell ?_ (by first | omega | (simp <;> omega)) _) | (with_reducible exact Below.refl _ _) | refine below_drewN ?_ _ | refine Below.drew ?_ | refine Below.alloc ?_ (by first | omega | (simp <;> omega)) _)))).mono ?_
  rintro e w2 ⟨rfl, hb⟩
  have bk : Below w.heap.size w w2 := Below.trans (by repeat (first | (with_reducible assumption) | (with_reducible refine Below.setCell ?_ (by first | omega | (simp <;> omega)) _) | (with_reducible exact Below.refl _ _) | refine below_drewN ?_ _ | refine Below.drew ?_ | refine Below.alloc ?_ (by first | omega | (simp <;> omega)) _)) (hb.mono (by first | omega | (simp <;> omega)))
  go_wp2_with fail
  go_ret
  exact ⟨rfl, bk⟩

theorem read_any (g : Nat) (a b c : Int) (p m o : ByteArray) (w : World) (c0 : w.cell? ⟨g, 0, none⟩ = some (.int .u64 a)) (c1 : w.cell? ⟨g, 1, none⟩ = some (.int .u64 b)) (c2 : w.cell? ⟨g, 2, none⟩ = some (.int .u64 c)) (c3 : w.cell? ⟨g, 3, none⟩ = some (.string p)) (c4 : w.cell? ⟨g, 4, none⟩ = some (.string m)) (c5 : w.cell? ⟨g, 5, none⟩ = some (.string o)) :
    Calls Tryd.prog 12 #[.pointer (some ⟨g, 0, none⟩), .nilIface] w (fun e w' => e = .returned (.tuple #[.agg (plainC a b c p m), .bool true]) ∧ Below w.heap.size w w') := by
  go_enter Tryd.func12, Tryd.ntmps12
  go_wp2_with fail
  refine (plainVersionC_any g a b c p m o _ (keepV c0) (keepV c1) (keepV c2) (keepV c3) (keepV c4) (keepV c5)).mono ?_
  rintro e w2 ⟨rfl, hb⟩
  have bk : Below w.heap.size w w2 := Below.trans (by repeat (first | (with_reducible assumption) | (with_reducible refine Below.setCell ?_ (by first | omega | (simp <;> omega)) _) | (with_reducible exact Below.refl _ _) | refine below_drewN ?_ _ | refine Below.drew ?_ | refine Below.alloc ?_ (by first | omega | (simp <;> omega)) _)) (hb.mono (by simp))
  have lt := hb.size
  have K : PlainAt w2 w.heap.size zeroC := (hb.block _ (by simp)).trans (plainAt_last _ zeroC _ rfl)
  have k0 : w2.cell? ⟨w.heap.size, 0, none⟩ = some (.int .u64 0) := K.cell 0
  have k1 : w2.cell? ⟨w.heap.size, 1, none⟩ = some (.int .u64 0) := K.cell 1
  have k2 : w2.cell? ⟨w.heap.size, 2, none⟩ = some (.int .u64 0) := K.cell 2
  have k3 : w2.cell? ⟨w.heap.size, 3, none⟩ = some (.string ⟨#[]⟩) := K.cell 3
  have k4 : w2.cell? ⟨w.heap.size, 4, none⟩ = some (.string ⟨#[]⟩) := K.cell 4
  have f0 := K.free 0
  have f1 := K.free 1
  have f2 := K.free 2
  have f3 := K.free 3
  have f4 := K.free 4
  go_wp2_with fail
  refine bodyPost_ret (v := .tuple #[.agg (plainC a b c p m), .bool true]) (by simp [results, Tryd.results12, go_sem, k0, k1, k2, k3, k4]) rfl ⟨rfl, ?_⟩
  exact (by repeat (first | (with_reducible assumption) | (with_reducible refine Below.setCell ?_ (by first | omega | (simp <;> omega)) _) | (with_reducible exact Below.refl _ _) | refine below_drewN ?_ _ | refine Below.drew ?_ | refine Below.alloc ?_ (by first | omega | (simp <;> omega)) _))

theorem strictVersion_any (t : ByteArray) (a b c : Int) (p m : ByteArray) (w : World) (hS : Hid (∀ W : World, Calls Tryd.prog 13 #[.string t] W (StrictPost a b c p m t W))) :
    Calls Tryd.prog 7 #[.string t] w (fun e w' => e = .returned (.tuple #[.agg (plainC a b c p m), .bool true]) ∧ Below w.heap.size w w') := by
  go_enter Tryd.func7, Tryd.ntmps7
  go_wp2_with fail
  refine (hS.out _).mono ?_
  rintro e w2 ⟨g, rfl, ⟨c0, c1, c2, c3, c4, c5⟩, hb⟩
  have bk : Below w.heap.size w w2 := Below.trans (by repeat (first | (with_reducible assumption) | (with_reducible refine Below.setCell ?_ (by first | omega | (simp <;> omega)) _) | (with_reducible exact Below.refl _ _) | refine below_drewN ?_ _ | refine Below.drew ?_ | refine Below.alloc ?_ (by first | omega | (simp <;> omega)) _)) (hb.mono (by simp))
  have lt := hb.size
  have K : PlainAt w2 w.heap.size zeroC := (hb.block _ (by simp)).trans (plainAt_last _ zeroC _ rfl)
  go_wp2_with fail
  refine (read_any g a b c p m t _ c0 c1 c2 c3 c4 c5).mono ?_
  clear c0 c1 c2 c3 c4 c5
  rintro e w3 ⟨rfl, hb3⟩
  have bk3 : Below w.heap.size w w3 := bk.trans (hb3.mono bk.size)
  have lt3 := hb3.size
  replace K : PlainAt w3 w.heap.size zeroC := (hb3.block _ (by simp at lt; omega)).trans K
  have k0 : w3.cell? ⟨w.heap.size, 0, none⟩ = some (.int .u64 0) := K.cell 0
  have k1 : w3.cell? ⟨w.heap.size, 1, none⟩ = some (.int .u64 0) := K.cell 1
  have k2 : w3.cell? ⟨w.heap.size, 2, none⟩ = some (.int .u64 0) := K.cell 2
  have k3 : w3.cell? ⟨w.heap.size, 3, none⟩ = some (.string ⟨#[]⟩) := K.cell 3
  have k4 : w3.cell? ⟨w.heap.size, 4, none⟩ = some (.string ⟨#[]⟩) := K.cell 4
  have f0 := K.free 0
  have f1 := K.free 1
  have f2 := K.free 2
  have f3 := K.free 3
  have f4 := K.free 4
  clear bk
  go_wp2_with fail
  refine bodyPost_ret (v := .tuple #[.agg (plainC a b c p m), .bool true]) (by simp [results, Tryd.results7, go_sem, k0, k1, k2, k3, k4]) rfl ⟨rfl, ?_⟩
  exact (by repeat (first | (with_reducible assumption) | (with_reducible refine Below.setCell ?_ (by first | omega | (simp <;> omega)) _) | (with_reducible exact Below.refl _ _) | refine below_drewN ?_ _ | refine Below.drew ?_ | refine Below.alloc ?_ (by first | omega | (simp <;> omega)) _))
end Go.Proofs.YtbipmpojmfbekaaDoor
