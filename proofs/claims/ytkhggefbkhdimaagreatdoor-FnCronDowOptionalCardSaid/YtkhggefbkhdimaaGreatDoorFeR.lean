/- spec.CronSix: its verdict. -/
import Derived.Test.YtkhggefbkhdimaaGreatDoorFdW
import Derived.Test.YtkhggefbkhdimaaGreatDoorFeD
import Derived.Deep.WholeRow
import Derived.Laws.IdiomCopy
namespace Go.Proofs.YtkhggefbkhdimaaGreatDoor
open Go.RowKit
set_option linter.unusedVariables false
set_option linter.unusedSimpArgs false

def verd (T : Nat → List UInt8) : Nat → Nat
  | 0 => 1
  | n + 1 => worseN (verd T n) (fieldN n (T n))
theorem verd_le (T : Nat → List UInt8) : ∀ n, verd T n ≤ 2
  | 0 => by show 1 ≤ 2; omega
  | n + 1 => by
    have h1 := verd_le T n
    have h2 := (field_plain n (T n)).2.2
    show worseN (verd T n) (fieldN n (T n)) ≤ 2
    unfold worseN
    split <;> omega
theorem verd_one (T : Nat → List UInt8) : ∀ n, verd T n = 1 → ∀ i, i < n → fieldN i (T i) = 1
  | 0, _, i, hi => by omega
  | n + 1, h, i, hi => by
    have h1 := verd_le T n
    have h2 := (field_plain n (T n)).2.2
    have h3 : worseN (verd T n) (fieldN n (T n)) = 1 := h
    have h4 : verd T n = 1 ∧ fieldN n (T n) = 1 := by
      unfold worseN at h3
      split at h3 <;> omega
    by_cases e : i = n
    · subst e; exact h4.2
    · exact verd_one T n h4.1 i (by omega)
theorem infoCF : (Tryz.prog.info? 30).map (·.size) = some 384 := by kernel_rfl
theorem st_there (W : World) (b : Nat) (V : Array Value) (hT : W.there b 0 V.size) (h1 : V.all (·.oneCell') = true) : (storeCells ⟨b, 0, none⟩ V.toList).run Tryz.prog W = .ok () (W.setCells b 0 V.toList) :=
  run_storeCells_cells b 0 V.toList 0 W (fun j hj => (by have := (hT j (by simpa using hj)).1; rw [show 0 + 0 + j = 0 + j by omega]; exact this)) (fun j hj => (by have := (hT j (by simpa using hj)).2; rw [show 0 + 0 + j = 0 + j by omega]; exact this)) (fun v hv => (by
    rw [Array.all_eq_true_iff_forall_mem] at h1
    exact h1 v (by simpa using hv)))
/-- Cells that hold one cell each. -/
def OneAt (W : World) (b n : Nat) : Prop := ∀ j, j < n → ∃ v, W.cell? ⟨b, j, none⟩ = some v ∧ v.oneCell' = true
theorem OneAt.list {W : World} {b n : Nat} (h : OneAt W b n) : ∃ cs : List Value, cs.length = n ∧ W.rangeAt b 0 cs ∧ ∀ v ∈ cs, v.oneCell' = true := by
  refine ⟨(List.range n).map (fun j => (W.cell? ⟨b, j, none⟩).getD undef), by simp, fun j v hv => ?_, fun v hv => ?_⟩
  · simp only [List.getElem?_map, Option.map_eq_some_iff] at hv
    obtain ⟨a, ha, rfl⟩ := hv
    have hj : j < n := by simpa using (List.getElem?_eq_some_iff.1 ha).1
    have e : a = j := by have := (List.getElem?_eq_some_iff.1 ha).2; simpa using this.symm
    subst e
    obtain ⟨v, hv, -⟩ := h a hj
    rw [show 0 + a = a by omega, hv]; rfl
  · obtain ⟨a, ha, rfl⟩ := List.mem_map.1 hv
    obtain ⟨v, hv, ho⟩ := h a (List.mem_range.1 ha)
    rw [hv]; exact ho
theorem OneAt.below {W W' : World} {b n : Nat} (h : OneAt W b n) (hb : Below W.heap.size W W') : OneAt W' b n := fun j hj => by
  obtain ⟨v, hv, ho⟩ := h j hj
  exact ⟨v, cellB hb hv, ho⟩
theorem OneAt.set {W : World} {b n o : Nat} {vs : List Value} (h : OneAt W b n) (ht : W.there b o vs.length) (hv : ∀ v ∈ vs, v.oneCell' = true) : OneAt (W.setCells b o vs) b n := fun j hj => by
  by_cases hin : o ≤ j ∧ j < o + vs.length
  · have e := World.cell?_setCells_in b vs o W (fun i hi => (ht i hi).1) (j - o) (by omega)
    rw [show o + (j - o) = j by omega] at e
    exact ⟨_, e, hv _ (List.getElem_mem _)⟩
  · obtain ⟨v, hv2, ho⟩ := h j hj
    exact ⟨v, (World.cell?_setCells_out b vs o W ⟨b, j, none⟩ (fun _ _ => by show j < o ∨ o + vs.length ≤ j; omega)).trans hv2, ho⟩
theorem OneAt.new (W : World) (cs : Array Value) (t : TypeId) (g n : Nat) (hg : g = W.heap.size) (hn : n = cs.size) (h1 : cs.all (·.oneCell') = true) : OneAt (W.alloc (.cells cs t)) g n := fun j hj => by
  subst hg; subst hn
  refine ⟨cs[j], ?_, ?_⟩
  · rw [cell_of_row _ _ _ cs t (0, 0) (heap_alloc_new W (.cells cs t))]
    simp [hj]
  · rw [Array.all_eq_true_iff_forall_mem] at h1
    exact h1 _ (Array.getElem_mem hj)
theorem idx_0 (W : World) (g : Nat) : (Instr.indexAt 30 (.pointer (some ⟨g + 1, 0, none⟩)) (.int .i64 0)).run Tryz.prog W = .ok (.pointer (some ⟨g + 1, 0 * 64, none⟩)) W := by kernel_rfl
theorem idx_1 (W : World) (g : Nat) : (Instr.indexAt 30 (.pointer (some ⟨g + 1, 0, none⟩)) (.int .i64 1)).run Tryz.prog W = .ok (.pointer (some ⟨g + 1, 1 * 64, none⟩)) W := by kernel_rfl
theorem idx_2 (W : World) (g : Nat) : (Instr.indexAt 30 (.pointer (some ⟨g + 1, 0, none⟩)) (.int .i64 2)).run Tryz.prog W = .ok (.pointer (some ⟨g + 1, 2 * 64, none⟩)) W := by kernel_rfl
theorem idx_3 (W : World) (g : Nat) : (Instr.indexAt 30 (.pointer (some ⟨g + 1, 0, none⟩)) (.int .i64 3)).run Tryz.prog W = .ok (.pointer (some ⟨g + 1, 3 * 64, none⟩)) W := by kernel_rfl
theorem idx_4 (W : World) (g : Nat) : (Instr.indexAt 30 (.pointer (some ⟨g + 1, 0, none⟩)) (.int .i64 4)).run Tryz.prog W = .ok (.pointer (some ⟨g + 1, 4 * 64, none⟩)) W := by kernel_rfl
theorem idx_5 (W : World) (g : Nat) : (Instr.indexAt 30 (.pointer (some ⟨g + 1, 0, none⟩)) (.int .i64 5)).run Tryz.prog W = .ok (.pointer (some ⟨g + 1, 5 * 64, none⟩)) W := by kernel_rfl
theorem idx_six (W : World) (g n : Nat) (hn : n < 6) : (Instr.indexAt 30 (.pointer (some ⟨g + 1, 0, none⟩)) (.int .i64 n)).run Tryz.prog W = .ok (.pointer (some ⟨g + 1, n * 64, none⟩)) W := by
  have h2 : n = 0 ∨ n = 1 ∨ n = 2 ∨ n = 3 ∨ n = 4 ∨ n = 5 := by omega
  rcases h2 with rfl | rfl | rfl | rfl | rfl | rfl
  · exact idx_0 W g
  · exact idx_1 W g
  · exact idx_2 W g
  · exact idx_3 W g
  · exact idx_4 W g
  · exact idx_5 W g
set_option maxRecDepth 100000 in
set_option maxHeartbeats 4000000 in
theorem six_any (T : Nat → List UInt8) (hT : ∀ i, (T i).length ≤ 65600) (G : Nat) (w : World) (hc : ∀ i, i < 6 → w.cell? ⟨G, i, none⟩ = some (.string (mkB (T i)))) :
    Calls Tryz.prog 109 #[.slice (some ⟨G, 0, none⟩) 6 6] w fun e w' => ∃ V : Array Value, e = .returned (.tuple #[.agg V, .int .i64 (verd T 6 : Nat)]) ∧ V.size = 384 ∧ V.all (·.oneCell') = true ∧ Below w.heap.size w w' := by
  have HCC := Lib.hid hc
  clear hc
  have HFA : Hid (∀ n, n < 6 → ∃ V : Array Value, V.size = 64 ∧ V.all (·.oneCell') = true ∧ ∀ W, Calls Tryz.prog 133 #[.agg #[.int .i64 (loK n : Nat), .int .i64 (hiK n : Nat), .int .i64 n], .string (mkB (T n))] W fun e w' => e = .returned (.tuple #[.agg V, .int .i64 (fieldN n (T n) : Nat)]) ∧ Below W.heap.size W w') := Lib.hid (fun n hn => ⟨(setL (fieldT n (T n)) (fieldF n (T n))).toArray, by simp [setL_len], setL_one _ _, fun W => cronField_any n hn (T n) (by have := hT n; omega) W⟩)
  have HBA := Lib.hid (fun n hn W => boundsOf_any n hn W)
  go_enter Tryz.func109, Tryz.ntmps109
  go_wp2_with fail
  refine wp_named' ?_
  intro W2 hW2
  obtain ⟨g, hg⟩ : ∃ g, g = w.heap.size := ⟨_, rfl⟩
  have HT2 : Hid (W2.there (g + 1) 0 384) := by rw [← hW2, hg]; exact Lib.hid (there_new _ _ _ _ _ (by simp) (by kernel_rfl))
  have HO2 : Hid (OneAt W2 (g + 1) 384) := by rw [← hW2, hg]; exact Lib.hid (OneAt.new _ _ _ _ _ (by simp) (by kernel_rfl) (by kernel_rfl))
  have HT1 : Hid (W2.there g 0 384) := by rw [← hW2, hg]; exact Lib.hid (World.there_alloc (there_new _ _ _ _ _ (by simp) (by kernel_rfl)) _)
  have bk : Below w.heap.size w W2 := by rw [← hW2]; exact (by repeat (first | (with_reducible assumption) | (with_reducible exact Below.refl _ _) | (with_reducible refine Below.setCell ?_ (by first | omega | (simp <;> omega)) _) | refine below_drewN ?_ _ | refine Below.drew ?_ | refine Below.alloc ?_ (by first | omega | (simp <;> omega)) _))
  have hgw : w.heap.size ≤ g := by omega
  rw [← hg]
  clear hW2 hg
  go_loopw [5, 9] (fun v i wr => ∃ n : Nat, n ≤ 6 ∧ i = .int .i64 n ∧ v = .int .i64 (verd T n : Nat) ∧ Hid (wr.there (g + 1) 0 384) ∧ Hid (OneAt wr (g + 1) 384) ∧ Hid (wr.there g 0 384) ∧ Below w.heap.size w wr) (fun _ i _ => 6 - (intOf i).toNat)
  case atStart => exact ⟨0, by omega, rfl, rfl, HT2, HO2, HT1, bk⟩
  case round =>
    clear HT2 HT1 HO2 bk
    obtain ⟨n, hn, rfl, rfl, hT2, hO, hT1, hbr⟩ := hrel
    by_cases hlt : n < 6
    · have q8 : decide ((n : Int) < 6) = true := decide_eq_true (by omega)
      obtain ⟨V, hVs, hVo, hF⟩ := HFA.out n hlt
      have HF := Lib.hid hF
      have HB := Lib.hid (fun W => HBA.out n hlt W)
      have hcn : wr.cell? ⟨G, n, none⟩ = some (.string (mkB (T n))) := (hbr.cell (cellLt (HCC.out n hlt))).trans (HCC.out n hlt)
      have HVD : Hid (worseN (verd T n) (fieldN n (T n)) = verd T (n + 1)) := Lib.hid rfl
      have HWO := Lib.hid (fun W => worse_any (verd T n) (fieldN n (T n)) (verd_le T n) (field_plain n (T n)).2.2 W)
      rw [HVD.out] at HWO
      clear hF
      generalize loK n = lo at *
      generalize hiK n = hi at *
      generalize fieldN n (T n) = fv at *
      generalize mkB (T n) = tx at *
      have hsn : ∀ (W : World) (Z : Array Value), Z.size = 64 → (storeCells ⟨W.heap.size, 0, none⟩ V.toList).run Tryz.prog (W.alloc (.cells Z 28)) = .ok () (W.alloc (.cells V 28)) := fun W Z hZ => run_storeCells_new W 28 Z V (infoCS.trans (by rw [hVs])) (by rw [hZ, hVs]) hVo
      have hsz : V.toList.length = 64 := by rw [Array.length_toList, hVs]
      have hro : ∀ (W : World), (W.alloc (.cells V 28)).rangeAt W.heap.size 0 V.toList := fun W j v hv => by
        rw [show 0 + j = j by omega, cell_of_row _ _ j V _ (0, 0) (heap_alloc_new W _)]
        simpa using hv
      have HRO := Lib.hid hro
      clear hro
      go_wp2_with fail
      go_cut [7, 8] (fun p v wx => ∃ b, p = .pointer (some ⟨b, 0, none⟩) ∧ v = .int .i64 fv ∧ wx.rangeAt b 0 V.toList ∧ wr.heap.size ≤ b ∧ Below wr.heap.size wr wx)
      case first =>
        have hcB := (fun (o : Obj) => keepV (o := o) hcn)
        go_region_with (first | (go_at_call 134; refine (HB.out _).mono ?_; rintro e W1 ⟨rfl, hb⟩; first | (have bW : Below wr.heap.size wr W1 := ⟨hb.os, hb.tape, hb.output, hb.size, hb.block⟩; have hcW := cellB bW hcn; have hcA := (fun (o : Obj) => keepV (o := o) hcW); have BW := Lib.hid bW; clear hb bW) | (have bW : Below wr.heap.size wr W1 := (Below.alloc (Below.refl wr.heap.size wr) (Nat.le_refl _) _).trans (Below.mono ⟨hb.os, hb.tape, hb.output, hb.size, hb.block⟩ (by simp)); have hcW := cellB bW hcn; have hcA := (fun (o : Obj) => keepV (o := o) hcW); have BW := Lib.hid bW; have HTb : Hid (W1.there wr.heap.size 0 64) := Lib.hid (there_below (there_new wr _ 28 _ 64 rfl rfl) ⟨hb.os, hb.tape, hb.output, hb.size, hb.block⟩); clear hb bW)) | (go_at_call 133; refine (HF.out _).mono ?_; rintro e W3 ⟨rfl, hb3⟩; first | (have hT3 : W3.there wr.heap.size 0 64 := there_below HTb.out ⟨hb3.os, hb3.tape, hb3.output, hb3.size, hb3.block⟩; have b3 : Below W1.heap.size W1 W3 := ⟨hb3.os, hb3.tape, hb3.output, hb3.size, hb3.block⟩; have r3 : Below wr.heap.size wr W3 := Below.trans BW.out (Below.mono b3 BW.out.size); have hle : wr.heap.size ≤ wr.heap.size := (by first | exact Nat.le_refl _ | exact BW.out.size); have HST := st_there W3 wr.heap.size V (by rw [hVs]; exact hT3) hVo; have HZ : Hid ((W3.setCells wr.heap.size 0 V.toList).rangeAt wr.heap.size 0 V.toList ∧ wr.heap.size ≤ wr.heap.size ∧ Below wr.heap.size wr (W3.setCells wr.heap.size 0 V.toList)) := Lib.hid ⟨World.rangeAt_setCells_same W3 wr.heap.size 0 V.toList (by rw [hsz]; exact hT3), hle, below_setCells hle _ _ _ r3⟩; clear hb3 b3 r3 hT3 hle) | (have b3 : Below W1.heap.size W1 W3 := ⟨hb3.os, hb3.tape, hb3.output, hb3.size, hb3.block⟩; have r3 : Below wr.heap.size wr W3 := Below.trans BW.out (Below.mono b3 BW.out.size); have HZ : Hid ((W3.alloc (.cells V 28)).rangeAt W3.heap.size 0 V.toList ∧ wr.heap.size ≤ W3.heap.size ∧ Below wr.heap.size wr (W3.alloc (.cells V 28))) := Lib.hid ⟨HRO.out W3, r3.size, Below.alloc r3 r3.size _⟩; clear hb3 b3 r3) | (have hT3 : W3.there W1.heap.size 0 64 := there_below (there_new W1 _ 28 _ 64 rfl rfl) ⟨hb3.os, hb3.tape, hb3.output, hb3.size, hb3.block⟩; have b3 : Below W1.heap.size W1 W3 := (Below.alloc (Below.refl W1.heap.size W1) (Nat.le_refl _) _).trans (Below.mono ⟨hb3.os, hb3.tape, hb3.output, hb3.size, hb3.block⟩ (by simp)); have r3 : Below wr.heap.size wr W3 := Below.trans BW.out (Below.mono b3 BW.out.size); have hle : wr.heap.size ≤ W1.heap.size := (by first | exact Nat.le_refl _ | exact BW.out.size); have HST := st_there W3 W1.heap.size V (by rw [hVs]; exact hT3) hVo; have HZ : Hid ((W3.setCells W1.heap.size 0 V.toList).rangeAt W1.heap.size 0 V.toList ∧ wr.heap.size ≤ W1.heap.size ∧ Below wr.heap.size wr (W3.setCells W1.heap.size 0 V.toList)) := Lib.hid ⟨World.rangeAt_setCells_same W3 W1.heap.size 0 V.toList (by rw [hsz]; exact hT3), hle, below_setCells hle _ _ _ r3⟩; clear hb3 b3 r3 hT3 hle)))
        all_goals (go_wp2_with fail; go_meet; obtain ⟨r1, r2, r3⟩ := HZ.out; first | exact ⟨_, rfl, rfl, r1, r2, r3⟩ | exact ⟨_, rfl, rfl, r1, r2, Below.drew r3⟩ | trace_state)
      case rest =>
        obtain ⟨b, rfl, rfl, hr, hle, hbl⟩ := hcut
        have HRL := Lib.hid hr
        obtain ⟨X, hX⟩ : ∃ X, X = wc.drew := ⟨_, rfl⟩
        have hbx : Below wr.heap.size wr X := by rw [hX]; exact Below.drew hbl
        have hrx : X.rangeAt b 0 V.toList := by rw [hX]; exact hr
        have hT2c := there_below hT2.out hbx
        have HT1c := Lib.hid (there_below hT1.out hbx)
        have hbc := hbr.trans (hbx.mono hbr.size)
        have hTn : X.there (g + 1) (n * 64) V.size := there_part hT2c (by rw [hVs]; omega)
        have hlv := run_loadVar_mid (P := Tryz.prog) X b 0 28 V.toList _ hrx Tryz.underlying28 rfl (infoCS.trans (by rw [hsz]))
        simp only [Array.toArray_toList] at hlv
        have hst := run_storeCells_cells (P := Tryz.prog) (g + 1) (n * 64) V.toList 0 X (fun j hj => (by have := (hTn j (by simpa using hj)).1; rw [show n * 64 + 0 + j = n * 64 + j by omega]; exact this)) (fun j hj => (by have := (hTn j (by simpa using hj)).2; rw [show n * 64 + 0 + j = n * 64 + j by omega]; exact this)) (fun v hv => (by
          rw [Array.all_eq_true_iff_forall_mem] at hVo
          exact hVo v (by simpa using hv)))
        have HO5 : Hid (OneAt (X.setCells (g + 1) (n * 64) V.toList) (g + 1) 384) := Lib.hid ((hO.out.below hbx).set (by rw [Array.length_toList]; exact hTn) (fun v hv => by
          rw [Array.all_eq_true_iff_forall_mem] at hVo
          exact hVo v (by simpa using hv)))
        have HT5 : Hid ((X.setCells (g + 1) (n * 64) V.toList).there (g + 1) 0 384) := Lib.hid (World.there_setCells hT2c _ _ _)
        have HT6 : Hid ((X.setCells (g + 1) (n * 64) V.toList).there g 0 384) := Lib.hid (World.there_setCells HT1c.out _ _ _)
        have HB3 : Hid (Below w.heap.size w (X.setCells (g + 1) (n * 64) V.toList)) := Lib.hid (below_setCells (by omega) _ _ _ hbc)
        have hne : b ≠ g + 1 := by have := hT2.out 0 (by omega); have h5 : g + 1 < wr.heap.size := (by
          obtain ⟨u, hu⟩ := Option.isSome_iff_exists.1 this.1
          exact World.block_lt_of_cell? wr _ hu); omega
        have hix : ∀ W : World, (Instr.indexAt 30 (.pointer (some ⟨g + 1, 0, none⟩)) (.int .i64 n)).run Tryz.prog W = .ok (.pointer (some ⟨g + 1, n * 64, none⟩)) W := fun W => idx_six W g n hlt
        clear hlv hst
        clear hT2c hbc hr hbl
        have hX2 := Lib.hid hX
        clear hX
        go_wp2_with fail
        refine wp_region_held_drew (S := fun W => W = X ∨ W = X.setCells (g + 1) (n * 64) V.toList) (by kernel_rfl) (Or.inl hX2.out.symm) (fun hHeld => ?_)
        rw [← hX2.out] at hHeld ⊢
        refine wpAnyH_take (i := 0) (v := .int .i64 n) rfl (by kernel_rfl) (by kernel_rfl) (by kernel_rfl) (fun _ _ _ h => h) (Or.inl ⟨by rfl, fun _ _ => by rfl⟩) (by assumption) ?_
        (try simp only [Array.toArray_toList, Act.put, List.getElem_toArray, List.getElem_cons_zero, List.getElem_cons_succ, List.setIfInBounds_toArray, List.set_cons_zero, List.set_cons_succ])
        refine wpAnyH_take (i := 1) (v := .agg V.toList.toArray) rfl (by kernel_rfl) (by kernel_rfl) (by kernel_rfl) (fun _ _ _ h => h) (yieldsIf_load_mid (by rfl) 28 (.tmp 7) rfl b 0 (by rfl) V.toList _ (fun W hW => ?_) Tryz.underlying28 rfl (infoCS.trans (by rw [hsz]))) (by assumption) ?_
        · rcases hW with rfl | rfl
          · exact hrx
          · exact World.rangeAt_setCells_apart hrx _ _ _ (Or.inl hne)
        (try simp only [Array.toArray_toList, Act.put, List.getElem_toArray, List.getElem_cons_zero, List.getElem_cons_succ, List.setIfInBounds_toArray, List.set_cons_zero, List.set_cons_succ])
        refine wpAnyH_take (i := 2) (v := .int .i64 (verd T n : Nat)) rfl (by kernel_rfl) (by kernel_rfl) (by kernel_rfl) (fun _ _ _ h => h) (Or.inl ⟨by rfl, fun _ _ => by rfl⟩) (by assumption) ?_
        (try simp only [Array.toArray_toList, Act.put, List.getElem_toArray, List.getElem_cons_zero, List.getElem_cons_succ, List.setIfInBounds_toArray, List.set_cons_zero, List.set_cons_succ])
        refine wpAnyH_take (i := 3) (v := .int .i64 fv) rfl (by kernel_rfl) (by kernel_rfl) (by kernel_rfl) (fun _ _ _ h => h) (Or.inl ⟨by rfl, fun _ _ => by rfl⟩) (by assumption) ?_
        (try simp only [Array.toArray_toList, Act.put, List.getElem_toArray, List.getElem_cons_zero, List.getElem_cons_succ, List.setIfInBounds_toArray, List.set_cons_zero, List.set_cons_succ])
        refine wpAnyH_take (i := 5) (v := .pointer (some ⟨g + 1, n * 64, none⟩)) rfl (by kernel_rfl) (by kernel_rfl) (by kernel_rfl) (fun _ _ _ h => h) (Or.inl ⟨by rfl, fun W _ => by go_simp⟩) (by assumption) ?_
        (try simp only [Array.toArray_toList, Act.put, List.getElem_toArray, List.getElem_cons_zero, List.getElem_cons_succ, List.setIfInBounds_toArray, List.set_cons_zero, List.set_cons_succ])
        refine wpAnyH_ready (rs := [4]) (by kernel_rfl) (by simp) ?_
        refine AllReadyH.cons rfl (fun K hK => ?_) AllReadyH.nil
        go_simp
        go_at_call 84
        refine (HWO.out _).mono ?_
        rintro e w' ⟨rfl, rfl⟩
        refine hK.out _ _ hHeld (fun hHeld => ?_)
        clear hK K
        (try simp only [Array.toArray_toList, Act.put, List.getElem_toArray, List.getElem_cons_zero, List.getElem_cons_succ, List.setIfInBounds_toArray, List.set_cons_zero, List.set_cons_succ])
        refine wpAnyH_ready (rs := [6]) (by kernel_rfl) (by simp) ?_
        refine AllReadyH.cons rfl (fun K hK => ?_) AllReadyH.nil
        rw [if_pos (by rfl)]
        refine wp_store_mid 28 _ _ rfl (g + 1) (n * 64) V rfl rfl hTn (infoCS.trans (by rw [hVs])) hVo ?_
        refine hK.out _ _ (Or.inr rfl) (fun hHeld => ?_)
        clear hK K
        (try simp only [Array.toArray_toList, Act.put, List.getElem_toArray, List.getElem_cons_zero, List.getElem_cons_succ, List.setIfInBounds_toArray, List.set_cons_zero, List.set_cons_succ])
        refine wpAnyH_take (i := 7) (v := .int .i64 (verd T (n + 1) : Nat)) rfl (by kernel_rfl) (by kernel_rfl) (by kernel_rfl) (fun _ _ _ h => h) (Or.inl ⟨by rfl, fun _ _ => by rfl⟩) (by assumption) ?_
        (try simp only [Array.toArray_toList, Act.put, List.getElem_toArray, List.getElem_cons_zero, List.getElem_cons_succ, List.setIfInBounds_toArray, List.set_cons_zero, List.set_cons_succ])
        refine wpAnyH_done (by kernel_rfl) ?_ _
        (try simp only [Array.toArray_toList, Act.put, List.getElem_toArray, List.getElem_cons_zero, List.getElem_cons_succ, List.setIfInBounds_toArray, List.set_cons_zero, List.set_cons_succ])
        go_wp2_with fail
        exact ⟨⟨n + 1, by omega, by rw [Int.natCast_add]; rfl, rfl, HT5, HO5, HT6, HB3.out⟩, by simp [intOf]; omega⟩
    · obtain rfl : n = 6 := by omega
      have HT2 := Lib.hid hT2.out
      by_cases hv : verd T 6 = 1
      · have q9 : ((verd T 6 : Nat) : Int) = 1 := by omega
        rw [q9]
        obtain ⟨cs, hlen, hrr, hone⟩ := hO.out.list
        have hVo := all_oneCell_toArray hone
        have hVt : wr.there g 0 cs.toArray.size := by rw [List.size_toArray, hlen]; exact hT1.out
        have hVi : (Tryz.prog.info? 30).map (·.size) = some cs.toArray.size := by rw [List.size_toArray, hlen]; exact infoCF
        have hVs : cs.toArray.size = 384 := by rw [List.size_toArray, hlen]
        have hbel : Below w.heap.size w (wr.setCells g 0 cs.toArray.toList) := below_setCells hgw _ _ _ hbr
        obtain ⟨V, hV⟩ : ∃ V, V = cs.toArray := ⟨_, rfl⟩
        rw [← hV] at hVo hVt hVi hVs hbel
        have HV := Lib.hid hV
        clear hV
        go_wp2_with (first | (refine wpList_load_mid rfl 30 (.tmp 4) rfl (g + 1) 0 (by first | rfl | simp [Act.eval]) cs _ hrr Tryz.underlying30 rfl (infoCF.trans (by rw [hlen])) (stop_here ?_)))
        rw [← HV.out]
        unfold Stop
        go_wp2_with (first | (refine wpList_store_mid rfl 30 (.tmp 2) (.tmp 33) rfl g 0 V (by simp [Act.eval, Act.put]) (by simp [Act.eval, Act.put]) hVt hVi hVo (stop_here ?_)))
        unfold Stop
        go_wp2_with fail
        have hfin : (wr.setCells g 0 V.toList).rangeAt g 0 V.toList := World.rangeAt_setCells_same wr g 0 V.toList (by rw [Array.length_toList]; exact hVt)
        refine bodyPost_ret (v := .tuple #[.agg V, .int .i64 1]) ?_ rfl ⟨V, by rw [q9], hVs, hVo, hbel⟩
        generalize wr.setCells g 0 _ = W9 at hfin ⊢
        have hlv := run_loadVar_mid (P := Tryz.prog) W9 g 0 30 V.toList _ hfin Tryz.underlying30 rfl (by rw [Array.length_toList]; exact hVi)
        simp [results, Tryz.results109, Act.put, Sem.run_bind, asAddr, hlv]
      · have q9 : (((verd T 6 : Nat) : Int) = 1) = False := by simp; omega
        obtain ⟨V, hV⟩ : ∃ V, V = Tryz.zeroCells30 := ⟨_, rfl⟩
        have hVs : V.size = 384 := by rw [hV]; kernel_rfl
        have hVo : V.all (·.oneCell') = true := by rw [hV]; kernel_rfl
        have hVt : wr.there g 0 V.size := by rw [hVs]; exact hT1.out
        have hVi : (Tryz.prog.info? 30).map (·.size) = some V.size := by rw [hVs]; exact infoCF
        have hbel : Below w.heap.size w (wr.setCells g 0 V.toList) := below_setCells hgw _ _ _ hbr
        have HV := Lib.hid hV
        clear hV
        go_wp2_with (first | (refine wpList_store_mid rfl 30 (.tmp 2) (.tmp 31) rfl g 0 V (by simp [Act.eval, Act.put]) (by simp [Act.eval, Act.put]; exact HV.out.symm) hVt hVi hVo (stop_here ?_)))
        unfold Stop
        go_wp2_with fail
        have hfin : (wr.setCells g 0 V.toList).rangeAt g 0 V.toList := World.rangeAt_setCells_same wr g 0 V.toList (by rw [Array.length_toList]; exact hVt)
        refine bodyPost_ret (v := .tuple #[.agg V, .int .i64 (verd T 6 : Nat)]) ?_ rfl ⟨V, rfl, hVs, hVo, hbel⟩
        generalize wr.setCells g 0 _ = W9 at hfin ⊢
        have hlv := run_loadVar_mid (P := Tryz.prog) W9 g 0 30 V.toList _ hfin Tryz.underlying30 rfl (by rw [Array.length_toList]; exact hVi)
        simp [results, Tryz.results109, Act.put, Sem.run_bind, asAddr, hlv]
end Go.Proofs.YtkhggefbkhdimaaGreatDoor
