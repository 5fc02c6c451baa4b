/- spec.CronUnion, spec.CronBits. -/
import Derived.Test.YtkhggefbkhdimaaGreatDoorFdL
import Derived.Test.YtkhggefbkhdimaaGreatDoorGPa
import Derived.Lib.BufferOwn
import Derived.Deep.AppendLies
import Derived.Deep.DeepCutAuto
namespace Go.Proofs.YtkhggefbkhdimaaGreatDoor
open Go.RowKit
set_option linter.unusedVariables false
set_option linter.unusedSimpArgs false

theorem wp_named {P : Program} {c : Code} {Q : Exit → Act → World → Prop} {a : Act} {W : World} (h : ∀ W1, W = W1 → Code.wp P c Q a W1) : Code.wp P c Q a W := h W rfl
def tailL (f : Nat → Bool) : List Value := (List.range 63).map (fun i => .bool (f i))
theorem tailL_len (f : Nat → Bool) : (tailL f).length = 63 := by simp [tailL]
theorem tailL_get (f : Nat → Bool) (i : Nat) (hi : i < 63) : (tailL f).toArray[i]? = some (.bool (f i)) := by simp [tailL, hi]
theorem tail_range {w : World} {g : Nat} {st : Bool} {f : Nat → Bool} (h : w.rangeAt g 0 (setL st f)) : w.rangeAt g 1 (tailL f) := fun j v hv => by
  have hj : j < 63 := by
    obtain ⟨h1, _⟩ := List.getElem?_eq_some_iff.1 hv
    rw [tailL_len] at h1
    exact h1
  have h1 := setL_cell h j hj
  have h2 : (tailL f)[j]? = some (.bool (f j)) := by simpa using tailL_get f j hj
  rw [h2] at hv
  rw [h1]; exact hv
theorem setL_congr (st : Bool) (f g : Nat → Bool) (h : ∀ i, i < 63 → f i = g i) : setL st f = setL st g := by
  unfold setL
  congr 1
  refine List.map_congr_left (fun i hi => ?_)
  rw [h i (List.mem_range.1 hi)]
theorem index_arr (t : TypeId) (n : Nat) (cs : Array Value) (k : Nat) (v : Value) (h : Tryz.prog.underlying t = some (.array n 4)) (hk : k < n) (hv : cs[k]? = some v) (W : World) :
    (Instr.index t (.agg cs) (.int .i64 k)).run Tryz.prog W = .ok v W := by
  have s1 : ∀ W, (sizeOf 4).run Tryz.prog W = .ok 1 W := fun W => by kernel_rfl
  have s2 : ∀ W, (isAgg 4).run Tryz.prog W = .ok false W := fun W => by kernel_rfl
  have hn : (0 : Int) ≤ k ∧ (k : Int) < (n : Int) := by omega
  simp [Instr.index, run_underlying h, asIntOf, hn, go_sem, hv, hk, s1, s2]
theorem box_range {W : World} {A : Array Value} {st : Bool} {f : Nat → Bool} (hA : A = (setL st f).toArray) : (W.alloc (.cells A 28)).rangeAt W.heap.size 0 (setL st f) := fun j v hv => by
  rw [show 0 + j = j by omega, cell_of_row _ _ j A _ (0, 0) (heap_alloc_new W _), hA]
  simpa using hv
theorem box_there {W : World} {A : Array Value} {st : Bool} {f : Nat → Bool} (hA : A = (setL st f).toArray) : (W.alloc (.cells A 28)).there W.heap.size 0 64 := there_new _ _ _ _ _ rfl (by rw [hA]; simp [setL_len])

set_option maxRecDepth 100000 in
set_option maxHeartbeats 4000000 in
theorem union_any (s1 s2 : Bool) (f g : Nat → Bool) (A B : Array Value) (hA : Hid (A = (setL s1 f).toArray)) (hB : Hid (B = (setL s2 g).toArray)) (st : Bool) (fu : Nat → Bool) (hst : Hid (st = (s1 || s2))) (hfu : Hid (∀ i, i < 63 → (f i || g i) = fu i)) (w : World) :
    Calls Tryz.prog 149 #[.agg A, .agg B] w fun e w' => e = .returned (.agg (setL st fu).toArray) ∧ Below w.heap.size w w' := by
  go_enter Tryz.func149, Tryz.ntmps149
  go_upto_region 1 with fail
  refine wp_named ?_
  intro W hW
  have hz : (w.alloc (.cells A 28)).heap.size = w.heap.size + 1 := by simp
  have hz2 : ((w.alloc (.cells A 28)).alloc (.cells B 28)).heap.size = w.heap.size + 2 := by simp
  have bA : Below (w.heap.size + 1) (w.alloc (.cells A 28)) ((w.alloc (.cells A 28)).alloc (.cells B 28)) := Below.alloc (Below.refl _ _) (by omega) _
  have bB : Below (w.heap.size + 2) ((w.alloc (.cells A 28)).alloc (.cells B 28)) (((w.alloc (.cells A 28)).alloc (.cells B 28)).alloc (.cells (setL false noneB).toArray 28)) := Below.alloc (Below.refl _ _) (by omega) _
  have HRa : Hid (W.rangeAt w.heap.size 0 (setL s1 f)) := Lib.hid (by
    rw [← hW]
    exact rangeAt_below (rangeAt_below (box_range hA.out) (by rw [hz]; exact bA)) (by rw [hz2]; exact bB))
  have HTa : Hid (W.there w.heap.size 0 64) := Lib.hid (by
    rw [← hW]
    exact there_below (there_below (box_there hA.out) (by rw [hz]; exact bA)) (by rw [hz2]; exact bB))
  have HRb : Hid (W.rangeAt (w.heap.size + 1) 0 (setL s2 g)) := Lib.hid (by
    rw [← hW]
    have := box_range (W := w.alloc (.cells A 28)) hB.out
    rw [hz] at this
    exact rangeAt_below this (by rw [hz2]; exact bB))
  have HTr : Hid (W.there (w.heap.size + 2) 0 64) := Lib.hid (by
    rw [← hW]
    have := there_new ((w.alloc (.cells A 28)).alloc (.cells B 28)) (setL false noneB).toArray 28 _ 64 rfl (by simp [setL_len])
    rw [hz2] at this
    exact this)
  have bk : Below w.heap.size w W := by
    rw [← hW]
    exact Below.alloc (Below.alloc (Below.alloc (Below.refl _ _) (Nat.le_refl _) _) (by simp) _) (by simp; omega) _
  clear hW hz hz2 bA bB
  have HRt := Lib.hid (tail_range HRb.out)
  go_wp2_with (first | (refine wpList_load_mid rfl 26 (.tmp 7) rfl (w.heap.size + 1) 1 (by simp [Act.eval]) (tailL g) _ HRt.out Tryz.underlying26 rfl ((by kernel_rfl : (Tryz.prog.info? 26).map (·.size) = some 63).trans (by rw [tailL_len])) (stop_here ?_)))
  have hidx : Hid (∀ k W, k < 63 → (Instr.index 26 (.agg (tailL g).toArray) (.int .i64 (k : Nat))).run Tryz.prog W = .ok (.bool (g k)) W) :=
    Lib.hid (fun k W hk => index_arr _ _ _ k _ Tryz.underlying26 hk (tailL_get g k hk) W)
  generalize (tailL g).toArray = G at hidx ⊢
  unfold Stop
  go_wp2_with fail
  go_loopw [9] (fun v wr => ∃ n : Nat, n ≤ 63 ∧ v = .int .i64 n ∧ Hid (wr.rangeAt w.heap.size 0 (setL s1 (fun i => f i || (decide (i < n) && g i)))) ∧ Hid (wr.there w.heap.size 0 64) ∧ Hid (W.grownBy wr (some w.heap.size))) (fun v _ => 63 - (intOf v).toNat)
  case atStart => exact ⟨0, by omega, rfl, Lib.hid (by have h := HRa.out; rw [setL_congr s1 f (fun i => f i || (decide (i < 0) && g i)) (fun i _ => by simp)] at h; exact h), HTa, Lib.hid (World.grownBy.refl _ _)⟩
  case round =>
    obtain ⟨n, hn, rfl, hR, hT, hG⟩ := hrel
    by_cases hlt : n < 63
    · have q8 : decide ((n : Int) < 63) = true := decide_eq_true (by omega)
      have hx := fun W => hidx.out n W hlt
      have hc1 : wr.cell? ⟨w.heap.size, 1 + n, none⟩ = some (.bool (f n)) := by
        have := setL_cell hR.out n hlt
        simpa using this
      have f1 : wr.frozen? ⟨w.heap.size, 1 + n, none⟩ = false := by
        have := (hT.out (1 + n) (by omega)).2
        rw [show 0 + (1 + n) = 1 + n by omega] at this
        exact this
      have hR2 := Lib.hid (setL_set (f2 := fun i => f i || (decide (i < n + 1) && g i)) hR.out n hlt (f n || g n) (fun i => by
        by_cases h1 : i = n
        · subst h1; simp
        · by_cases h2 : i < n
          · simp [h1, h2, show i < n + 1 by omega]
          · simp [h1, h2, show ¬ i < n + 1 by omega]))
      have hT2 : Hid ((wr.setCell ⟨w.heap.size, 1 + n, none⟩ (.bool (f n || g n))).there w.heap.size 0 64) := Lib.hid (there_set hT.out)
      have hG2 : Hid (W.grownBy (wr.setCell ⟨w.heap.size, 1 + n, none⟩ (.bool (f n || g n))) (some w.heap.size)) := Lib.hid (Lib.grownBy_setB hG.out (1 + n) _)
      generalize g n = v at hx hR2 hT2 hG2
      generalize f n = u at hc1 hR2 hT2 hG2
      cases u
      all_goals
        simp only [Bool.true_or, Bool.false_or] at hR2 hT2 hG2
        go_wp2_with fail
        go_roundw
        case rel => exact ⟨n + 1, by omega, by go_num, hR2, hT2, hG2⟩
        case measure => simp [intOf]; omega
    · have e : n = 63 := by omega
      subst e
      have q8 : decide (((63 : Nat) : Int) < 63) = false := decide_eq_false (by omega)
      have hc0 : wr.cell? ⟨w.heap.size, 0, none⟩ = some (.bool s1) := hR.out 0 _ rfl
      have f0 : wr.frozen? ⟨w.heap.size, 0, none⟩ = false := (hT.out 0 (by omega)).2
      have hd0 : wr.cell? ⟨w.heap.size + 1, 0, none⟩ = some (.bool s2) := hG.out.cell (HRb.out 0 _ rfl) (by simp)
      have HR3 : Hid ((wr.setCell ⟨w.heap.size, 0, none⟩ (.bool st)).rangeAt w.heap.size 0 (setL st fu)) := Lib.hid (by
        have h := setL_star (st2 := st) hR.out
        rw [setL_congr _ _ fu (fun i hi => by rw [← hfu.out i hi]; simp [hi])] at h
        exact h)
      have HG3 : Hid (W.grownBy (wr.setCell ⟨w.heap.size, 0, none⟩ (.bool st)) (some w.heap.size)) := Lib.hid (Lib.grownBy_setB hG.out 0 _)
      have HT4 : Hid ((wr.setCell ⟨w.heap.size, 0, none⟩ (.bool st)).there (w.heap.size + 2) 0 64) := Lib.hid (fun j hj => by
        obtain ⟨h1, h2⟩ := HTr.out j hj
        obtain ⟨v, hv⟩ := Option.isSome_iff_exists.1 h1
        have hl := World.block_lt_of_cell? W _ hv
        exact ⟨by rw [HG3.out.cell hv (by simp)]; rfl, by rw [HG3.out.frozen_far _ hl (by simp)]; exact h2⟩)
      have HB : Hid (Below w.heap.size w (wr.setCell ⟨w.heap.size, 0, none⟩ (.bool st))) := Lib.hid (Below.grown bk HG3.out bk.size (fun k hk => by cases hk; exact Nat.le_refl _))
      clear hR hT hG hfu
      cases s1
      all_goals
        have hst2 := hst.out
        clear hst
        simp only [Bool.true_or, Bool.false_or] at hst2
        subst hst2
        go_wp2_with (first | (refine wpList_load_mid rfl 28 (.tmp 2) rfl w.heap.size 0 (by simp [Act.eval]) _ _ HR3.out Tryz.underlying28 rfl (infoCS.trans (by rw [setL_len])) ?_) | (refine wpList_store_mid rfl 28 (.tmp 4) (.tmp 31) rfl (w.heap.size + 2) 0 _ rfl rfl (by simpa [setL_len] using HT4.out) (infoCS.trans (by simp [setL_len])) (setL_one _ _) (stop_here ?_)))
        unfold Stop
        generalize hS9 : setL _ fu = S9 at HR3 ⊢
        have hl9 : S9.length = 64 := by rw [← hS9]; exact setL_len _ _
        have e9 : S9.toArray.toList = S9 := by simp
        (try rw [e9])
        generalize hX : wr.setCell _ _ = X at HT4 HB HR3 HG3 ⊢
        have hfin : (X.setCells (w.heap.size + 2) 0 S9).rangeAt (w.heap.size + 2) 0 S9 := World.rangeAt_setCells_same X (w.heap.size + 2) 0 S9 (by rw [hl9]; exact HT4.out)
        have hbel : Below w.heap.size w (X.setCells (w.heap.size + 2) 0 S9) := below_setCells (by omega) _ _ _ HB.out
        generalize X.setCells (w.heap.size + 2) 0 S9 = W9 at hfin hbel ⊢
        have hlv := run_loadVar_mid (P := Tryz.prog) W9 (w.heap.size + 2) 0 28 S9 _ hfin Tryz.underlying28 rfl (infoCS.trans (by rw [hl9]))
        have HS9 := Lib.hid hS9
        clear hX HT4 HB HR3 HG3 hfin hc0 f0 hd0 hS9 hl9 e9
        generalize hV9 : S9.toArray = V9 at hlv ⊢
        have HV9 := Lib.hid hV9
        clear hV9
        go_wp2_with fail
        refine bodyPost_ret (v := .agg V9) ?_ rfl ⟨by rw [← HV9.out, ← HS9.out], hbel⟩
        simp [results, Tryz.results149, Act.put, Sem.run_bind, asAddr, hlv]
end Go.Proofs.YtkhggefbkhdimaaGreatDoor
