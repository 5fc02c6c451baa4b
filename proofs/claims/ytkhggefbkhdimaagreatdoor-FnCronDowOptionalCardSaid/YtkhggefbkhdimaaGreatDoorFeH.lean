/- impl.parser where NewParser panics not: its deferred function finds nothing to recover. -/
import Derived.Test.YtkhggefbkhdimaaGreatDoorFdP
import Derived.Recover
namespace Go.Proofs.YtkhggefbkhdimaaGreatDoor
open Go.RowKit Go.Shelf
set_option linter.unusedVariables false
set_option linter.unusedSimpArgs false

theorem catch_idle (p : Addr) (w : World) :
    CallsD Tryz.prog 59 #[.pointer (some p)] .returning w fun e u' w' => e = .returned (.tuple #[]) ∧ u' = .returning ∧ w' = w := by
  refine callsD_of_wpS Tryz.func59 rfl fun c₀ cs hu => ?_
  apply wpS_seq
  apply wpS_region
  simp [wpOpsS, go_sem, recoverD, hu, Tryz.ntmps59, Exit.thenS]
  refine wpS_cond (t := false) (by simp [Act.eval, Array.replicate]) ?_
  simp only [Bool.false_eq_true, if_false]
  refine wpS_of_wp (wp_skip ?_)
  cases c₀
  simp_all [bodyPostS, results, Tryz.results59]

theorem parser_ok (o : Int) (HNP : Hid (∀ w : World, Calls Tryz.prog 60 #[.int .i64 o] w fun ed w' => ed = .returned (.agg #[.int .i64 o]) ∧ Below w.heap.size w w')) (w : World) :
    Calls Tryz.prog 42 #[.int .i64 o] w fun e w' => e = .returned (.tuple #[.agg #[.int .i64 o], .bool false]) ∧ Below w.heap.size w w' := by
  have hmf : ∀ (fn : Fn) (first cap : Array Value) (w : World), (Instr.makeFunc fn first cap).run Tryz.prog w = .ok (.func fn first cap) w := fun _ _ _ _ => rfl
  go_enter_defers Tryz.func42, Tryz.ntmps42
  go_wp2_with fail
  refine (HNP.out _).mono ?_
  rintro e w1 ⟨rfl, hb⟩
  obtain ⟨A, hA⟩ : ∃ A, A = w.alloc (.cells #[.int .i64 0] 85) := ⟨_, rfl⟩
  have ea : A.heap[w.heap.size]? = some (.cells #[.int .i64 0] 85) := by rw [hA]; exact heap_alloc_new w _
  have hza : A.heap.size = w.heap.size + 1 := by rw [hA]; simp
  have ha : Below w.heap.size w A := by rw [hA]; exact Below.alloc (Below.refl _ _) (Nat.le_refl _) _
  rw [← hA] at hb
  have eb := heap_alloc_new A (.cells #[.bool false] 4)
  have hzb : (A.alloc (.cells #[.bool false] 4)).heap.size = w.heap.size + 2 := by simp [hza]
  have hb2 : Below A.heap.size A (A.alloc (.cells #[.bool false] 4)) := Below.alloc (Below.refl _ _) (Nat.le_refl _) _
  have ea2 : (A.alloc (.cells #[.bool false] 4)).heap[w.heap.size]? = some (.cells #[.int .i64 0] 85) := by rw [hb2.block _ (by omega)]; exact ea
  have r0 : w1.heap[w.heap.size]? = some (.cells #[.int .i64 0] 85) := by rw [hb.block _ (by omega)]; exact ea2
  have r1 : w1.heap[w.heap.size + 1]? = some (.cells #[.bool false] 4) := by rw [hb.block _ (by omega), ← hza]; exact eb
  have c0 : w1.cell? ⟨w.heap.size, 0, none⟩ = some (.int .i64 0) := cell_of_row _ _ 0 _ _ (0, 0) r0
  have f0 : w1.frozen? ⟨w.heap.size, 0, none⟩ = false := by unfold World.frozen?; rw [r0]; simp
  have c1 : w1.cell? ⟨w.heap.size + 1, 0, none⟩ = some (.bool false) := cell_of_row _ _ 0 _ _ (0, 0) r1
  have f1 : w1.frozen? ⟨w.heap.size + 1, 0, none⟩ = false := by unfold World.frozen?; rw [r1]; simp
  have hbw : Below w.heap.size w w1 := (ha.trans (hb2.mono ha.size)).trans (hb.mono (by omega))
  have HB : Hid (Below w.heap.size w ((w1.setCell ⟨w.heap.size, 0, none⟩ (.int .i64 o)).setCell ⟨w.heap.size + 1, 0, none⟩ (.bool false))) := Lib.hid (Below.setCell (Below.setCell hbw (Nat.le_refl w.heap.size) _) (Nat.le_succ w.heap.size) _)
  clear hb hb2 ha ea ea2 eb r0 r1 hza hzb hA hbw
  go_wp2_with fail
  refine leaves_cons (f := 59) (args := #[.pointer (some ⟨w.heap.size + 1, 0, none⟩)]) (by simp) (by simp [go_sem]) ?_
  refine (catch_idle ⟨w.heap.size + 1, 0, none⟩ _).mono ?_
  rintro e u' w'' ⟨rfl, rfl, rfl⟩
  have d1 := World.cell?_setCell_same (w1.setCell ⟨w.heap.size, 0, none⟩ (.int .i64 o)) ⟨w.heap.size + 1, 0, none⟩ (.bool false) (by rw [World.cell?_setCell_other _ _ _ _ (by intro h; injection h with h; omega)]; exact c1)
  have d0 : ((w1.setCell ⟨w.heap.size, 0, none⟩ (.int .i64 o)).setCell ⟨w.heap.size + 1, 0, none⟩ (.bool false)).cell? ⟨w.heap.size, 0, none⟩ = some (.int .i64 o) := by
    rw [World.cell?_setCell_other _ _ _ _ (by intro h; injection h with h; omega)]
    exact World.cell?_setCell_same _ _ _ c0
  simp [Leaves, settle, results, Tryz.results42, go_sem, d0, d1]
  exact HB.out
end Go.Proofs.YtkhggefbkhdimaaGreatDoor
