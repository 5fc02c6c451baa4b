/- impl.version; LessThan, Equal; impl.VersionCompare, VersionLess, VersionEqual, ComparePre. -/
import Derived.Test.YtjlbljajgkiniaaDoorVerCmp
import Derived.LaidEqlPtr
namespace Go.Proofs.YtjlbljajgkiniaaDoor
open Go.RowKit
set_option linter.unusedVariables false
set_option linter.unusedSimpArgs false

abbrev plainC (a b c : Int) (p m : ByteArray) : Array Value := #[.int .u64 a, .int .u64 b, .int .u64 c, .string p, .string m]

set_option maxHeartbeats 400000 in
theorem zzVersion_any (a b c : Int) (p m : ByteArray) (w : World) :
    Calls Tryd.prog 42 #[.int .u64 a, .int .u64 b, .int .u64 c, .string p, .string m] w fun e w' => e = .returned (.pointer (some ⟨w.heap.size, 0, none⟩)) ∧ w' = w.alloc (.cells (verC a b c p m ⟨#[]⟩) 61) := by
  go_enter Tryd.func42, Tryd.ntmps42
  go_wp2_with fail
  go_ret
  exact ⟨rfl, rfl⟩

set_option maxHeartbeats 400000 in
theorem version_any (a b c : Int) (p m : ByteArray) (w : World) :
    Calls Tryd.prog 24 #[.agg (plainC a b c p m)] w fun e w' => e = .returned (.pointer (some ⟨w.heap.size + 1, 0, none⟩)) ∧ w' = (w.alloc (.cells (plainC a b c p m) 24)).alloc (.cells (verC a b c p m ⟨#[]⟩) 61) := by
  go_enter Tryd.func24, Tryd.ntmps24
  go_wp2_with fail
  refine (zzVersion_any _ _ _ _ _ _).mono ?_
  rintro e w' ⟨rfl, rfl⟩
  go_wp2_with fail
  go_ret
  exact ⟨by simp, rfl⟩

set_option maxHeartbeats 400000 in
theorem lessThan_any (g k : Nat) (r : Int) (w : World)
    (h : Hid (Calls Tryd.prog 43 #[.pointer (some ⟨g, 0, none⟩), .pointer (some ⟨k, 0, none⟩)] w (PartPost r w))) :
    Calls Tryd.prog 48 #[.pointer (some ⟨g, 0, none⟩), .pointer (some ⟨k, 0, none⟩)] w fun e w' => e = .returned (.bool (decide (r < 0))) ∧ Below w.heap.size w w' := by
  go_enter Tryd.func48, Tryd.ntmps48
  go_wp2_with fail
  refine (Calls.mono h ?_)
  rintro e w' ⟨rfl, hb⟩
  go_wp2_with fail
  go_ret
  exact ⟨rfl, hb⟩

set_option maxHeartbeats 400000 in
theorem equal_any (g k : Nat) (cs ds : Array Value) (r : Int) (w : World) (hne : g ≠ k) (hg : VerAt w g cs) (hk : VerAt w k ds)
    (h : Hid (Calls Tryd.prog 43 #[.pointer (some ⟨g, 0, none⟩), .pointer (some ⟨k, 0, none⟩)] w (PartPost r w))) :
    Calls Tryd.prog 25 #[.pointer (some ⟨g, 0, none⟩), .pointer (some ⟨k, 0, none⟩)] w fun e w' => e = .returned (.bool (r == 0)) ∧ Below w.heap.size w w' := by
  obtain ⟨j, hj, hj0⟩ : ∃ j, Tryd.prog.info? 61 = some j ∧ j.size ≠ 0 := by
    have h0 : (Tryd.prog.info? 61).map (fun i => i.size) = some 6 := by kernel_rfl
    obtain ⟨j, hj, h1⟩ := Option.map_eq_some_iff.1 h0
    exact ⟨j, hj, by omega⟩
  have he1 := run_eql_ptr_other (P := Tryd.prog) w (tp := 43) (te := 61) (a := ⟨g, 0, none⟩) (b := ⟨k, 0, none⟩) Tryd.underlying43 hj hj0 (by intro e; injection e with e1; exact hne e1) hg hk
  clear hne hg hk hj hj0
  go_enter Tryd.func25, Tryd.ntmps25
  go_wp2_with fail
  refine (Calls.mono h ?_)
  rintro e w' ⟨rfl, hb⟩
  go_wp2_with fail
  go_ret
  exact ⟨rfl, hb⟩

theorem verAt_last (W : World) (cs : Array Value) (n : Nat) (hn : n = W.heap.size) : VerAt (W.alloc (.cells cs 61)) n cs := by subst hn; exact heap_alloc_new W _
theorem VerAt.alloc {W : World} {g : Nat} {cs : Array Value} (h : VerAt W g cs) (o : Obj) : VerAt (W.alloc o) g cs := (Below.heap_alloc W o g h.lt).trans h
theorem VerAt.drew' {W : World} {g : Nat} {cs : Array Value} (h : VerAt W g cs) : VerAt W.drew g cs := h

theorem keepB {X Y : World} {B g i : Nat} {u : Value} (hb : Below B X Y) (hl : g < B) (h : X.cell? ⟨g, i, none⟩ = some u) : Y.cell? ⟨g, i, none⟩ = some u := (Below.cell hb hl).trans h
theorem wp_named {P : Program} {c : Code} {Q : Exit → Act → World → Prop} {a : Act} {W : World} (h : ∀ W1, W = W1 → Code.wp P c Q a W1) : Code.wp P c Q a W := h W rfl
/-- Block g is a version by value. -/
def PlainAt (w : World) (g : Nat) (cs : Array Value) : Prop := w.heap[g]? = some (.cells cs 24 (0, 0))
theorem PlainAt.lt {w : World} {g : Nat} {cs : Array Value} (h : PlainAt w g cs) : g < w.heap.size := (Array.getElem?_eq_some_iff.1 h).1
theorem PlainAt.cell {w : World} {g : Nat} {cs : Array Value} (h : PlainAt w g cs) (i : Nat) : w.cell? ⟨g, i, none⟩ = cs[i]? := cell_of_row w g i cs _ (0, 0) h
theorem plainAt_last (W : World) (cs : Array Value) (n : Nat) (hn : n = W.heap.size) : PlainAt (W.alloc (.cells cs 24)) n cs := by subst hn; exact heap_alloc_new W _
theorem PlainAt.alloc {W : World} {g : Nat} {cs : Array Value} (h : PlainAt W g cs) (o : Obj) : PlainAt (W.alloc o) g cs := (Below.heap_alloc W o g h.lt).trans h

set_option maxRecDepth 100000 in
set_option maxHeartbeats 2000000 in
theorem versionEqual_any (a b c x y z : Int) (p m q n : ByteArray) (w : World) (hs : p.size ≤ 2147483654) (ho : q.size ≤ 2147483654) (he : Hid (Errs w)) :
    Calls Tryd.prog 9 #[.agg (plainC a b c p m), .agg (plainC x y z q n)] w (fun e w' => e = .returned (.bool (cmpI a b c p x y z q == 0)) ∧ Below w.heap.size w w') := by
  go_enter Tryd.func9, Tryd.ntmps9
  go_wp2_with fail
  refine wp_named ?_
  intro W0 hW0
  have A1 : PlainAt W0 w.heap.size (plainC a b c p m) := by rw [← hW0]; exact (plainAt_last _ _ _ rfl).alloc _
  have B1 : PlainAt W0 (w.heap.size + 1) (plainC x y z q n) := by rw [← hW0]; exact plainAt_last _ _ _ (by simp)
  have b0 : Below w.heap.size w W0 := by rw [← hW0]; exact (by repeat (first | exact Below.refl _ _ | refine Below.alloc ?_ (by simp <;> omega) _))
  have e0 : Hid (Errs W0) := he.below b0
  have n0 : w.heap.size + 2 ≤ W0.heap.size := by rw [← hW0]; simp
  clear hW0 he
  have c0 : W0.cell? ⟨w.heap.size, 0, none⟩ = some (.int .u64 a) := A1.cell 0
  have c1 : W0.cell? ⟨w.heap.size, 1, none⟩ = some (.int .u64 b) := A1.cell 1
  have c2 : W0.cell? ⟨w.heap.size, 2, none⟩ = some (.int .u64 c) := A1.cell 2
  have c3 : W0.cell? ⟨w.heap.size, 3, none⟩ = some (.string p) := A1.cell 3
  have c4 : W0.cell? ⟨w.heap.size, 4, none⟩ = some (.string m) := A1.cell 4
  have d0 : W0.cell? ⟨w.heap.size + 1, 0, none⟩ = some (.int .u64 x) := B1.cell 0
  have d1 : W0.cell? ⟨w.heap.size + 1, 1, none⟩ = some (.int .u64 y) := B1.cell 1
  have d2 : W0.cell? ⟨w.heap.size + 1, 2, none⟩ = some (.int .u64 z) := B1.cell 2
  have d3 : W0.cell? ⟨w.heap.size + 1, 3, none⟩ = some (.string q) := B1.cell 3
  have d4 : W0.cell? ⟨w.heap.size + 1, 4, none⟩ = some (.string n) := B1.cell 4
  clear A1 B1
  have hB0 : ∀ o1 o2 o3 o4 : Obj, Below W0.heap.size W0 ((((W0.alloc o1).alloc o2).alloc o3).alloc o4).drew := fun o1 o2 o3 o4 => (by repeat (first | exact Below.refl _ _ | refine Below.drew ?_ | refine Below.alloc ?_ (by simp <;> omega) _))
  go_region_held3 (fun w' => w'.cell? ⟨w.heap.size, 0, none⟩ = some (.int .u64 a) ∧ w'.cell? ⟨w.heap.size, 1, none⟩ = some (.int .u64 b) ∧ w'.cell? ⟨w.heap.size, 2, none⟩ = some (.int .u64 c) ∧ w'.cell? ⟨w.heap.size, 3, none⟩ = some (.string p) ∧ w'.cell? ⟨w.heap.size, 4, none⟩ = some (.string m) ∧ w'.cell? ⟨w.heap.size + 1, 0, none⟩ = some (.int .u64 x) ∧ w'.cell? ⟨w.heap.size + 1, 1, none⟩ = some (.int .u64 y) ∧ w'.cell? ⟨w.heap.size + 1, 2, none⟩ = some (.int .u64 z) ∧ w'.cell? ⟨w.heap.size + 1, 3, none⟩ = some (.string q) ∧ w'.cell? ⟨w.heap.size + 1, 4, none⟩ = some (.string n)) (first | (refine ⟨?_, ?_, ?_, ?_, ?_, ?_, ?_, ?_, ?_, ?_⟩ <;> (repeat (first | assumption | (with_reducible refine keepD ?_) | (with_reducible refine keepN ?_) | (with_reducible refine keepV ?_) | (refine keepB hb (by simp <;> omega) ?_)))) | go_keep)
    (first | (go_at_call 24; refine (version_any _ _ _ _ _ _).mono ?_; rintro e w' ⟨rfl, rfl⟩) | (go_at_call 25; refine (equal_any _ _ _ _ _ _ (by simp <;> omega) (VerAt.drew' (VerAt.alloc (VerAt.alloc (verAt_last _ _ _ (by simp)) _) _)) (VerAt.drew' (verAt_last _ _ _ (by simp))) (Lib.hid (compare_any _ _ a b c x y z p m ⟨#[]⟩ q n ⟨#[]⟩ _ (VerAt.drew' (VerAt.alloc (VerAt.alloc (verAt_last _ _ _ (by simp)) _) _)) (VerAt.drew' (verAt_last _ _ _ (by simp))) hs ho (e0.below (hB0 _ _ _ _))))).mono ?_; rintro e w' ⟨rfl, hb⟩; have kc0 := keepB hb (by simp <;> omega) (keepD (keepV (keepV (keepV (keepV c0))))); have kc1 := keepB hb (by simp <;> omega) (keepD (keepV (keepV (keepV (keepV c1))))); have kc2 := keepB hb (by simp <;> omega) (keepD (keepV (keepV (keepV (keepV c2))))); have kc3 := keepB hb (by simp <;> omega) (keepD (keepV (keepV (keepV (keepV c3))))); have kc4 := keepB hb (by simp <;> omega) (keepD (keepV (keepV (keepV (keepV c4))))); have kd0 := keepB hb (by simp <;> omega) (keepD (keepV (keepV (keepV (keepV d0))))); have kd1 := keepB hb (by simp <;> omega) (keepD (keepV (keepV (keepV (keepV d1))))); have kd2 := keepB hb (by simp <;> omega) (keepD (keepV (keepV (keepV (keepV d2))))); have kd3 := keepB hb (by simp <;> omega) (keepD (keepV (keepV (keepV (keepV d3))))); have kd4 := keepB hb (by simp <;> omega) (keepD (keepV (keepV (keepV (keepV d4)))))))
  go_wp2_with fail
  go_ret
  exact ⟨rfl, b0.trans (Below.mono ((hB0 _ _ _ _).trans (hb.mono (by simp <;> omega))) b0.size)⟩
end Go.Proofs.YtjlbljajgkiniaaDoor
