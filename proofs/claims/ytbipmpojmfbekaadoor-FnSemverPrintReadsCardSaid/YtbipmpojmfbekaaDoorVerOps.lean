/- Versions of the semver package in memory; impl.version. -/
import Derived.Test.YtbipmpojmfbekaaDoorPreRel
import Derived.Deep.RegionHeld3
import Derived.BigQuiet
import Derived.LaidEqlPtr
namespace Go.Proofs.YtbipmpojmfbekaaDoor
open Go.RowKit
set_option linter.unusedVariables false
set_option linter.unusedSimpArgs false

abbrev verC (a b c : Int) (p m o : ByteArray) : Array Value := #[.int .u64 a, .int .u64 b, .int .u64 c, .string p, .string m, .string o]

set_option maxHeartbeats 400000 in
theorem major_any (a b c : Int) (p m o : ByteArray) (w : World) :
    Calls Tryd.prog 32 #[.agg (verC a b c p m o)] w fun e w' => e = .returned (.int .u64 a) ∧ w' = w.alloc (.cells (verC a b c p m o) 46) := by
  go_enter Tryd.func32, Tryd.ntmps32
  go_wp2_with fail
  go_ret
  exact ⟨rfl, rfl⟩
set_option maxHeartbeats 400000 in
theorem minor_any (a b c : Int) (p m o : ByteArray) (w : World) :
    Calls Tryd.prog 33 #[.agg (verC a b c p m o)] w fun e w' => e = .returned (.int .u64 b) ∧ w' = w.alloc (.cells (verC a b c p m o) 46) := by
  go_enter Tryd.func33, Tryd.ntmps33
  go_wp2_with fail
  go_ret
  exact ⟨rfl, rfl⟩
set_option maxHeartbeats 400000 in
theorem patch_any (a b c : Int) (p m o : ByteArray) (w : World) :
    Calls Tryd.prog 34 #[.agg (verC a b c p m o)] w fun e w' => e = .returned (.int .u64 c) ∧ w' = w.alloc (.cells (verC a b c p m o) 46) := by
  go_enter Tryd.func34, Tryd.ntmps34
  go_wp2_with fail
  go_ret
  exact ⟨rfl, rfl⟩
set_option maxHeartbeats 400000 in
theorem pre_any (a b c : Int) (p m o : ByteArray) (w : World) :
    Calls Tryd.prog 35 #[.agg (verC a b c p m o)] w fun e w' => e = .returned (.string p) ∧ w' = w.alloc (.cells (verC a b c p m o) 46) := by
  go_enter Tryd.func35, Tryd.ntmps35
  go_wp2_with fail
  go_ret
  exact ⟨rfl, rfl⟩

def VerAt (w : World) (g : Nat) (cs : Array Value) : Prop := w.heap[g]? = some (.cells cs 46 (0, 0))

theorem keepD {X : World} {a : Addr} {u : Value} (h : X.cell? a = some u) : X.drew.cell? a = some u := h
theorem keepN {X : World} {n : Nat} {a : Addr} {u : Value} (h : X.cell? a = some u) : (X.drewN n).cell? a = some u := h
theorem keepV {X : World} {o : Obj} {a : Addr} {u : Value} (h : X.cell? a = some u) : (X.alloc o).cell? a = some u := (World.cell?_alloc_some X a o (by rw [h]; rfl)).trans h

/-- The world under a letter: only what lies below it is known. -/
theorem wp_world {P : Program} {c : Code} {Q : Exit → Act → World → Prop} {a : Act} {W w : World} (hB : Below w.heap.size w W) (h : ∀ W1, Below w.heap.size w W1 → Code.wp P c Q a W1) : Code.wp P c Q a W := h W hB

theorem calls_world {P : Program} {f : FuncId} {args : Array Value} {R : Ending → World → Prop} {W w : World} (hB : Below w.heap.size w W) (h : ∀ W1, Below w.heap.size w W1 → Calls P f args W1 R) : Calls P f args W R := h W hB

theorem VerAt.lt {w : World} {g : Nat} {cs : Array Value} (h : VerAt w g cs) : g < w.heap.size := (Array.getElem?_eq_some_iff.1 h).1
theorem VerAt.below {w w' : World} {g : Nat} {cs : Array Value} (h : VerAt w g cs) (hb : Below w.heap.size w w') : VerAt w' g cs := (hb.block g h.lt).trans h
theorem VerAt.cell {w : World} {g : Nat} {cs : Array Value} (h : VerAt w g cs) (i : Nat) : w.cell? ⟨g, i, none⟩ = cs[i]? := cell_of_row w g i cs _ (0, 0) h




abbrev plainC (a b c : Int) (p m : ByteArray) : Array Value := #[.int .u64 a, .int .u64 b, .int .u64 c, .string p, .string m]
set_option maxHeartbeats 400000 in
theorem zzVersion_any (a b c : Int) (p m : ByteArray) (w : World) :
    Calls Tryd.prog 27 #[.int .u64 a, .int .u64 b, .int .u64 c, .string p, .string m] w fun e w' => e = .returned (.pointer (some ⟨w.heap.size, 0, none⟩)) ∧ w' = w.alloc (.cells (verC a b c p m ⟨#[]⟩) 46) := by
  go_enter Tryd.func27, Tryd.ntmps27
  go_wp2_with fail
  go_ret
  exact ⟨rfl, rfl⟩

set_option maxHeartbeats 400000 in
theorem version_any (a b c : Int) (p m : ByteArray) (w : World) :
    Calls Tryd.prog 14 #[.agg (plainC a b c p m)] w fun e w' => e = .returned (.pointer (some ⟨w.heap.size + 1, 0, none⟩)) ∧ w' = (w.alloc (.cells (plainC a b c p m) 24)).alloc (.cells (verC a b c p m ⟨#[]⟩) 46) := by
  go_enter Tryd.func14, Tryd.ntmps14
  go_wp2_with fail
  refine (zzVersion_any _ _ _ _ _ _).mono ?_
  rintro e w' ⟨rfl, rfl⟩
  go_wp2_with fail
  go_ret
  exact ⟨by simp, rfl⟩

theorem verAt_last (W : World) (cs : Array Value) (n : Nat) (hn : n = W.heap.size) : VerAt (W.alloc (.cells cs 46)) n cs := by subst hn; exact heap_alloc_new W _
theorem VerAt.alloc {W : World} {g : Nat} {cs : Array Value} (h : VerAt W g cs) (o : Obj) : VerAt (W.alloc o) g cs := (Below.heap_alloc W o g h.lt).trans h
theorem VerAt.drew' {W : World} {g : Nat} {cs : Array Value} (h : VerAt W g cs) : VerAt W.drew g cs := h

theorem keepB {X Y : World} {B g i : Nat} {u : Value} (hb : Below B X Y) (hl : g < B) (h : X.cell? ⟨g, i, none⟩ = some u) : Y.cell? ⟨g, i, none⟩ = some u := (Below.cell hb hl).trans h
theorem wp_named {P : Program} {c : Code} {Q : Exit → Act → World → Prop} {a : Act} {W : World} (h : ∀ W1, W = W1 → Code.wp P c Q a W1) : Code.wp P c Q a W := h W rfl
/-- Block g is a version by value. -/
def PlainAt (w : World) (g : Nat) (cs : Array Value) : Prop := w.heap[g]? = some (.cells cs 24 (0, 0))
theorem PlainAt.lt {w : World} {g : Nat} {cs : Array Value} (h : PlainAt w g cs) : g < w.heap.size := (Array.getElem?_eq_some_iff.1 h).1
theorem PlainAt.cell {w : World} {g : Nat} {cs : Array Value} (h : PlainAt w g cs) (i : Nat) : w.cell? ⟨g, i, none⟩ = cs[i]? := cell_of_row w g i cs _ (0, 0) h
theorem plainAt_last (W : World) (cs : Array Value) (n : Nat) (hn : n = W.heap.size) : PlainAt (W.alloc (.cells cs 24)) n cs := by subst hn; exact heap_alloc_new W _
theorem PlainAt.alloc {W : World} {g : Nat} {cs : Array Value} (h : PlainAt W g cs) (o : Obj) : PlainAt (W.alloc o) g cs := (Below.heap_alloc W o g h.lt).trans h
end Go.Proofs.YtbipmpojmfbekaaDoor
