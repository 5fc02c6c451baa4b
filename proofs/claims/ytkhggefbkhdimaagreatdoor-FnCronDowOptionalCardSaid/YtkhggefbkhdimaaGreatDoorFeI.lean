/- impl.ParseCron. -/
import Derived.Test.YtkhggefbkhdimaaGreatDoorGFf
import Derived.Test.YtkhggefbkhdimaaGreatDoorFeH
namespace Go.Proofs.YtkhggefbkhdimaaGreatDoor
open Go.RowKit Go.Shelf
set_option linter.unusedVariables false
set_option linter.unusedSimpArgs false

theorem implCron_any (o : Int) (s : ByteArray) (F : Nat → List UInt8) (hno : ¬ (0 < bits .and .i64 o 128 ∧ 0 < bits .and .i64 o 2)) (HP : Hid (∀ (w : World), Hid (Errs w) → Calls Tryz.prog 43 #[.agg #[.int .i64 o], .string s] w (ParR (fun i => fieldJ i (F i)) w))) (w : World) (he : Hid (Errs w)) :
    Calls Tryz.prog 15 #[.int .i64 o, .string s] w (PlainR (fun i => fieldJ i (F i)) w) := by
  have HPA := Lib.hid (fun w => parser_ok o (Lib.hid (fun w => newParser_ok o w hno)) w)
  go_enter Tryz.func15, Tryz.ntmps15
  go_wp2_with fail
  have ea := heap_alloc_new w (.cells #[.bool false, .int .i64 0, .int .u64 0, .int .u64 0, .int .u64 0, .int .u64 0, .int .u64 0, .int .u64 0] 24)
  have ha : Below w.heap.size w (w.alloc (.cells #[.bool false, .int .i64 0, .int .u64 0, .int .u64 0, .int .u64 0, .int .u64 0, .int .u64 0, .int .u64 0] 24)) := Below.alloc (Below.refl _ _) (Nat.le_refl _) _
  have hz : (w.alloc (.cells #[.bool false, .int .i64 0, .int .u64 0, .int .u64 0, .int .u64 0, .int .u64 0, .int .u64 0, .int .u64 0] 24)).heap.size = w.heap.size + 1 := by simp
  refine (HPA.out _).mono ?_
  rintro e0 w0 ⟨rfl, hb0⟩
  have r0 : w0.heap[w.heap.size]? = some (.cells #[.bool false, .int .i64 0, .int .u64 0, .int .u64 0, .int .u64 0, .int .u64 0, .int .u64 0, .int .u64 0] 24) := by rw [hb0.block _ (by rw [hz]; omega)]; exact ea
  have HB0 := Lib.hid (ha.trans (hb0.mono ha.size))
  have HE0 := Lib.hid (he.out.below HB0.out)
  have hl0 : w.heap.size < w0.heap.size := by have := hb0.size; omega
  clear ea ha hz hb0
  have hP0 : Below w0.heap.size w0 (w0.alloc (.cells #[.int .i64 o] 85)) := Below.alloc (Below.refl _ _) (Nat.le_refl _) _
  have HEA : Hid (Errs (w0.alloc (.cells #[.int .i64 o] 85))) := Lib.hid (HE0.out.below hP0)
  have HBA : Hid (Below w.heap.size w (w0.alloc (.cells #[.int .i64 o] 85))) := Lib.hid (HB0.out.trans (hP0.mono HB0.out.size))
  have ra : (w0.alloc (.cells #[.int .i64 o] 85)).heap[w.heap.size]? = some (.cells #[.bool false, .int .i64 0, .int .u64 0, .int .u64 0, .int .u64 0, .int .u64 0, .int .u64 0, .int .u64 0] 24) := by rw [hP0.block _ hl0]; exact r0
  have hla : w.heap.size < (w0.alloc (.cells #[.int .i64 o] 85)).heap.size := by simp; omega
  clear r0 hP0
  go_wp2_with fail
  refine (HP.out _ HEA).mono ?_
  intro e1 w1 hR
  have hb := hR.2.2
  obtain ⟨v, ev, rfl, hPl⟩ := plain_of _ _ _ _ hR
  have r1 : w1.heap[w.heap.size]? = some (.cells #[.bool false, .int .i64 0, .int .u64 0, .int .u64 0, .int .u64 0, .int .u64 0, .int .u64 0, .int .u64 0] 24) := by rw [hb.block _ hla]; exact ra
  have HB1 := Lib.hid (HBA.out.trans (hb.mono HBA.out.size))
  have hl1 : w.heap.size < w1.heap.size := by have := hb.size; omega
  clear hR hb ra
  go_wp2_with fail
  refine hPl.mono ?_
  rintro e2 w2 ⟨rfl, hb⟩
  have r2 : w2.heap[w.heap.size]? = some (.cells #[.bool false, .int .i64 0, .int .u64 0, .int .u64 0, .int .u64 0, .int .u64 0, .int .u64 0, .int .u64 0] 24) := by rw [hb.block _ hl1]; exact r1
  have HB2 := Lib.hid (HB1.out.trans (hb.mono HB1.out.size))
  have HT2 : Hid (w2.there w.heap.size 0 8) := Lib.hid (fun j hj => by
    constructor
    · rw [cell_of_row _ _ _ _ _ (0, 0) r2]; simp; omega
    · unfold World.frozen?; rw [r2]; simp)
  clear hb r1
  obtain ⟨xa, xb, xc, xd, xe, xf, hx⟩ := implS_of (fun i => fieldJ i (F i))
  have HX := Lib.hid hx
  rw [hx]
  clear hx r2
  rw [show implS xa xb xc xd xe xf = .agg (implC xa xb xc xd xe xf).toArray from rfl]
  obtain ⟨V, hV⟩ : ∃ V, V = (implC xa xb xc xd xe xf).toArray := ⟨_, rfl⟩
  rw [← hV]
  have hVs : V.size = 8 := by rw [hV]; rfl
  have hVo : V.all (·.oneCell') = true := by rw [hV]; exact implC_one _ _ _ _ _ _
  have hVi : (Tryz.prog.info? 24).map (·.size) = some V.size := by rw [hVs]; exact infoSC
  have hVt : w2.there w.heap.size 0 V.size := by rw [hVs]; exact HT2.out
  have HV := Lib.hid hV
  clear hV
  go_wp2_with (first | (refine wpList_store_mid rfl 24 (.tmp 4) (.tmp 21) rfl w.heap.size 0 V rfl rfl hVt hVi hVo ?_))
  have hfin : (w2.setCells w.heap.size 0 V.toList).rangeAt w.heap.size 0 V.toList := World.rangeAt_setCells_same w2 w.heap.size 0 V.toList (by rw [Array.length_toList]; exact hVt)
  have hbel : Below w.heap.size w (w2.setCells w.heap.size 0 V.toList) := below_setCells (Nat.le_refl _) _ _ _ HB2.out
  refine bodyPost_ret (v := .tuple #[.agg V, .bool (all6 fun i => fieldJ i (F i))]) ?_ rfl ⟨by rw [HX.out, HV.out]; rfl, hbel⟩
  generalize w2.setCells w.heap.size 0 _ = W9 at hfin ⊢
  have hlv := run_loadVar_mid (P := Tryz.prog) W9 w.heap.size 0 24 V.toList _ hfin Tryz.underlying24 rfl (by rw [Array.length_toList]; exact hVi)
  simp [results, Tryz.results15, Act.put, Sem.run_bind, asAddr, hlv]
end Go.Proofs.YtkhggefbkhdimaaGreatDoor
