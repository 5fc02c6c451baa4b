/- laws.svRun. -/
import Derived.Test.YtjlbljajgkiniaaDoorIrA
import Derived.Test.YtjlbljajgkiniaaDoorIncVer
namespace Go.Proofs.YtjlbljajgkiniaaDoor
open Go.RowKit
set_option linter.unusedVariables false
set_option linter.unusedSimpArgs false

def p3L (t : P3) : List Value := (plainC t.1 t.2.1 t.2.2 ⟨#[]⟩ ⟨#[]⟩).toList
def RP3 (_ : World) (us : List Value) (t : P3) : Prop := us = p3L t
theorem RP3.stab {e : TypeId} : Stab e RP3 := fun _ _ _ _ _ h => h
theorem RP3.mono : Mono RP3 := fun _ _ _ _ _ h => h
def RU8 (_ : World) (us : List Value) (s : Int) : Prop := us = [.int .u8 s]
theorem RU8.stab {e : TypeId} : Stab e RU8 := fun _ _ _ _ _ h => h
theorem RU8.mono : Mono RU8 := fun _ _ _ _ _ h => h
theorem Tryd.infoVr : (Tryd.prog.info? 24).map (fun i => (i.zero, i.size, i.bytes)) = some (some (.agg #[.int .u64 0, .int .u64 0, .int .u64 0, .string ByteArray.empty, .string ByteArray.empty]), 5, 56) := by kernel_rfl

theorem PlainAt.below8 {w w' : World} {g : Nat} {cs : Array Value} (h : PlainAt w g cs) (hb : Below w.heap.size w w') : PlainAt w' g cs := (hb.block g h.lt).trans h
theorem plain_store9 {w : World} {g : Nat} {x y z : Int} {q n : ByteArray} (h : PlainAt w g (plainC x y z q n)) (a b c : Int) (p m : ByteArray) :
    PlainAt (((((w.setCell ⟨g, 0, none⟩ (.int .u64 a)).setCell ⟨g, 1, none⟩ (.int .u64 b)).setCell ⟨g, 2, none⟩ (.int .u64 c)).setCell ⟨g, 3, none⟩ (.string p)).setCell ⟨g, 4, none⟩ (.string m)) g (plainC a b c p m) :=
  heap_setCell_same _ g 4 _ _ _ (heap_setCell_same _ g 3 _ _ _ (heap_setCell_same _ g 2 _ _ _ (heap_setCell_same _ g 1 _ _ _ (heap_setCell_same _ g 0 _ _ _ h))))
theorem below_store9 {w : World} {g B : Nat} (hB : B ≤ g) (a b c d e : Value) (w0 : World) (h : Below B w0 w) :
    Below B w0 (((((w.setCell ⟨g, 0, none⟩ a).setCell ⟨g, 1, none⟩ b).setCell ⟨g, 2, none⟩ c).setCell ⟨g, 3, none⟩ d).setCell ⟨g, 4, none⟩ e) :=
  ((((h.setCell (p := ⟨g, 0, none⟩) hB a).setCell (p := ⟨g, 1, none⟩) hB b).setCell (p := ⟨g, 2, none⟩) hB c).setCell (p := ⟨g, 3, none⟩) hB d).setCell (p := ⟨g, 4, none⟩) hB e
theorem own_store9 {α : Type} {R : World → List Value → α → Prop} {z B : Nat} {e : TypeId} {w : World} {v : Value} {l : List α} {g : Nat} (a b c d f : Value) (hR : ∀ (w w' : World) us x, R w us x → R w' us x) (h : OwnOf R z B e w v l) (hg : ∀ k, v.ownBlock = some k → k ≠ g) :
    OwnOf R z B e (((((w.setCell ⟨g, 0, none⟩ a).setCell ⟨g, 1, none⟩ b).setCell ⟨g, 2, none⟩ c).setCell ⟨g, 3, none⟩ d).setCell ⟨g, 4, none⟩ f) v l := by
  obtain ⟨cs, hl, hz, hown, hr⟩ := h
  refine ⟨cs, hl, hz, ⟨hown.1, ?_⟩, fun i x us hi hu => hR _ _ _ _ (hr i x us hi hu)⟩
  rcases hown.2 with h0 | ⟨k, cap, cur, rfl, hb, hk, hn⟩
  · exact .inl h0
  · have hne := hg k rfl
    refine .inr ⟨k, cap, cur, rfl, hb, ?_, hn⟩
    rw [Below.heap_setCell _ _ _ _ hne, Below.heap_setCell _ _ _ _ hne, Below.heap_setCell _ _ _ _ hne, Below.heap_setCell _ _ _ _ hne, Below.heap_setCell _ _ _ _ hne]
    exact hk

/-- The call of one step, over the version at hand. -/
theorem step_in0 (v : P3) (hv : In9 v) (ho : stepOk v 0) (w : World) (ht : Hid (Tab10 w)) : Calls Tryd.prog 21 #[.agg (plainC v.1 v.2.1 v.2.2 ⟨#[]⟩ ⟨#[]⟩)] w fun e w' => e = .returned (.agg (plainC (stepP v 0).1 (stepP v 0).2.1 (stepP v 0).2.2 ⟨#[]⟩ ⟨#[]⟩)) ∧ Below w.heap.size w w' :=
  verIncPatch_any v.1 v.2.1 v.2.2 hv.1.1 hv.1.2 hv.2.1.1 hv.2.1.2 hv.2.2.1 hv.2.2.2 ho w ht
theorem step_in1 (v : P3) (hv : In9 v) (ho : stepOk v 1) (w : World) (ht : Hid (Tab10 w)) : Calls Tryd.prog 22 #[.agg (plainC v.1 v.2.1 v.2.2 ⟨#[]⟩ ⟨#[]⟩)] w fun e w' => e = .returned (.agg (plainC (stepP v 1).1 (stepP v 1).2.1 (stepP v 1).2.2 ⟨#[]⟩ ⟨#[]⟩)) ∧ Below w.heap.size w w' :=
  verIncMinor_any v.1 v.2.1 v.2.2 ⟨#[]⟩ ⟨#[]⟩ hv.1.1 hv.1.2 hv.2.1.1 ho w ht
theorem step_in2 (v : P3) (hv : In9 v) (ho : stepOk v 2) (w : World) (ht : Hid (Tab10 w)) : Calls Tryd.prog 23 #[.agg (plainC v.1 v.2.1 v.2.2 ⟨#[]⟩ ⟨#[]⟩)] w fun e w' => e = .returned (.agg (plainC (stepP v 2).1 (stepP v 2).2.1 (stepP v 2).2.2 ⟨#[]⟩ ⟨#[]⟩)) ∧ Below w.heap.size w w' :=
  verIncMajor_any v.1 v.2.1 v.2.2 hv.1.1 hv.1.2 hv.2.1.1 hv.2.1.2 hv.2.2.1 hv.2.2.2 ho w ht


theorem lit_p3 (w : World) (n : Nat) (hn : n = w.heap.size) (x : P3) : OwnOf RP3 5 n 24 (w.alloc (.cells (plainC x.1 x.2.1 x.2.2 ⟨#[]⟩ ⟨#[]⟩) 24)) (.slice (some ⟨n, 0, none⟩) 1 1) [x] := by
  subst hn
  exact ⟨[p3L x], rfl, fun us h => by rw [List.mem_singleton] at h; subst h; rfl, World.ownsRow_lit (e := 24) (size := 5) w (plainC x.1 x.2.1 x.2.2 ⟨#[]⟩ ⟨#[]⟩) 1 (Nat.le_refl _) (by unfold maxLen; omega) rfl, fun i y us hi hu => by
    have : i = 0 := by have := (List.getElem?_eq_some_iff.1 hi).1; simp at this; omega
    subst this
    simp at hi hu
    subst hi; subst hu; rfl⟩

set_option maxRecDepth 100000 in
set_option maxHeartbeats 8000000 in
theorem svRun_any (v : P3) (S : List Int) (u : Value) (w : World) (hS : Hid (SlOf RU8 1 w u S)) (hlen : S.length ≤ 200) (hv : Hid (In9 v)) (ho : Hid (runOk v S)) (h012 : Hid (∀ s ∈ S, s = 0 ∨ s = 1 ∨ s = 2)) (ht : Hid (Tab10 w)) :
    Calls Tryd.prog 8 #[.agg (plainC v.1 v.2.1 v.2.2 ⟨#[]⟩ ⟨#[]⟩), u] w fun e w' => ∃ r L, e = .returned r ∧ OwnOf RP3 5 (w.heap.size + 1) 24 w' r L ∧ L.length = S.length + 1 ∧ L[S.length]? = some (runP v S) ∧ Below w.heap.size w w' := by
  obtain ⟨i0, hi, hz0, hz1, hz2⟩ := info_parts Tryd.infoVr
  obtain ⟨ao, cap, rfl, hx⟩ := hS.out
  have HX := Lib.hid hx
  clear hx hS
  go_enter Tryd.func8, Tryd.ntmps8
  go_wp2_with fail
  go_loopw [5, 12] (fun lv i wr => ∃ (k : Nat) (L : List P3), k ≤ S.length ∧ i = .int .i64 k ∧ Hid (OwnOf RP3 5 (w.heap.size + 1) 24 wr lv L ∧ L.length = k + 1 ∧ L[k]? = some (runP v (S.take k))) ∧ Hid (PlainAt wr w.heap.size (plainC (runP v (S.take k)).1 (runP v (S.take k)).2.1 (runP v (S.take k)).2.2 ⟨#[]⟩ ⟨#[]⟩)) ∧ Below w.heap.size w wr) (fun _ i _ => S.length - (intOf i).toNat)
  case atStart =>
    refine ⟨0, [v], Nat.zero_le _, rfl, ⟨?_, rfl, rfl⟩, ?_, ?_⟩
    · exact lit_p3 (w.alloc (.cells (plainC v.1 v.2.1 v.2.2 ⟨#[]⟩ ⟨#[]⟩) 24)) (w.heap.size + 1) (by simp) v
    · exact (Below.heap_alloc _ _ _ (by simp)).trans (plainAt_last w _ _ rfl)
    · exact ((Below.refl _ _).alloc (Nat.le_refl _) _).alloc (by simp) _
  case round =>
    obtain ⟨k, L, hk, rfl, HL, HP, hb⟩ := hrel
    by_cases hkL : k < S.length
    · obtain ⟨s, hs⟩ : ∃ s, S[k]? = some s := ⟨S[k], List.getElem?_eq_getElem hkL⟩
      obtain ⟨ab, aoff, us, rfl, hz, hcell, hu⟩ := HX.out k s hs
      unfold RU8 at hu
      subst hu
      have c0 := cellBS hb (hcell 0 _ rfl)
      simp only [Nat.mul_one, Nat.add_zero] at c0
      have HS := Lib.hid hs
      have hs3 := h012.out s (List.mem_of_getElem? hs)
      have HIn := Lib.hid (runP_in v S hv.out ho.out k hk)
      have HOk := Lib.hid (ho.out k s hs)
      clear hcell hz hs
      obtain ⟨q, hq⟩ : ∃ q, Hid (runP v (S.take k) = q) := ⟨_, rfl⟩
      rw [hq.out] at HP HIn HOk
      obtain ⟨qa, qb, qc⟩ := q
      have HT := Lib.hid (tabBelow ht hb)
      have p0 := HP.out.cell 0
      have p1 := HP.out.cell 1
      have p2 := HP.out.cell 2
      have p3 := HP.out.cell 3
      have p4 := HP.out.cell 4
      rcases hs3 with rfl | rfl | rfl
      · have HC := Lib.hid (step_in0 (qa, qb, qc) HIn.out HOk.out wr HT.out)
        obtain ⟨r, hr⟩ : ∃ r, Hid (stepP (qa, qb, qc) 0 = r) := ⟨_, rfl⟩
        rw [hr.out] at HC
        obtain ⟨ra, rb, rc⟩ := r
        have HRun : Hid (runP v (S.take (k + 1)) = (ra, rb, rc)) := by show _ = _; rw [take_snoc S k _ HS.out, runP_snoc, hq.out, hr.out]
        go_wp2_with fail
        refine HC.out.mono ?_
        rintro e w1 ⟨rfl, hb1⟩
        have hP1 := Lib.hid (HP.out.below8 hb1)
        have HL1 := Lib.hid (HL.out.1.below RP3.mono hb1)
        have bw1 := hb.trans (hb1.mono hb.size)
        clear p0 p1 p2 p3 p4 hb1 HC
        have p0 := hP1.out.cell 0
        have p1 := hP1.out.cell 1
        have p2 := hP1.out.cell 2
        have p3 := hP1.out.cell 3
        have p4 := hP1.out.cell 4
        have f0 : w1.frozen? ⟨w.heap.size, 0, none⟩ = false := by simp [World.frozen?, show w1.heap[w.heap.size]? = _ from hP1.out]
        have f1 : w1.frozen? ⟨w.heap.size, 1, none⟩ = false := by simp [World.frozen?, show w1.heap[w.heap.size]? = _ from hP1.out]
        have f2 : w1.frozen? ⟨w.heap.size, 2, none⟩ = false := by simp [World.frozen?, show w1.heap[w.heap.size]? = _ from hP1.out]
        have f3 : w1.frozen? ⟨w.heap.size, 3, none⟩ = false := by simp [World.frozen?, show w1.heap[w.heap.size]? = _ from hP1.out]
        have f4 : w1.frozen? ⟨w.heap.size, 4, none⟩ = false := by simp [World.frozen?, show w1.heap[w.heap.size]? = _ from hP1.out]
        have hPs := Lib.hid (plain_store9 hP1.out ra rb rc ⟨#[]⟩ ⟨#[]⟩)
        have bS := Lib.hid (below_store9 (Nat.le_refl w.heap.size) (.int .u64 ra) (.int .u64 rb) (.int .u64 rc) (.string ⟨#[]⟩) (.string ⟨#[]⟩) w bw1)
        have HLs := Lib.hid (own_store9 (g := w.heap.size) (.int .u64 ra) (.int .u64 rb) (.int .u64 rc) (.string ⟨#[]⟩) (.string ⟨#[]⟩) (fun _ _ _ _ h => h) HL1.out (fun g hg => by have := HL1.out.lt g hg; omega))
        have hsz : Hid ((((((w1.setCell ⟨w.heap.size, 0, none⟩ (.int .u64 ra)).setCell ⟨w.heap.size, 1, none⟩ (.int .u64 rb)).setCell ⟨w.heap.size, 2, none⟩ (.int .u64 rc)).setCell ⟨w.heap.size, 3, none⟩ (.string ⟨#[]⟩)).setCell ⟨w.heap.size, 4, none⟩ (.string ⟨#[]⟩)).heap.size = w1.heap.size) := by show _ = _; simp
        go_wp2_with (at_builtin; refine stop_here ?_)
        unfold Stop
        generalize (((((w1.setCell ⟨w.heap.size, 0, none⟩ (.int .u64 ra)).setCell ⟨w.heap.size, 1, none⟩ (.int .u64 rb)).setCell ⟨w.heap.size, 2, none⟩ (.int .u64 rc)).setCell ⟨w.heap.size, 3, none⟩ (.string ⟨#[]⟩)).setCell ⟨w.heap.size, 4, none⟩ (.string ⟨#[]⟩)) = ws at *
        clear p0 p1 p2 p3 p4 f0 f1 f2 f3 f4 hP1 HL1 bw1
        have bA := (Below.refl ws.heap.size ws).alloc (Nat.le_refl _) (.cells (plainC ra rb rc ⟨#[]⟩ ⟨#[]⟩) 24)
        obtain ⟨cs, hcl, hcz, hown2, hR⟩ := HLs.out.below RP3.mono bA
        rw [HL.out.2.1] at hown2 hcl
        refine wpList_append_own _ rfl _ _ 30 rfl _ 24 i0 (.agg #[.int .u64 0, .int .u64 0, .int .u64 0, .string ByteArray.empty, .string ByteArray.empty]) 5 56 Tryd.underlying30 hi hz0 hz1 hz2 rfl (by decide) _ _ _ rfl hown2 ⟨w1.heap.size, 0, none⟩ 1 1 (p3L (ra, rb, rc)) rfl rfl (by rw [← hsz.out]; exact cells_new ws (plainC ra rb rc ⟨#[]⟩ ⟨#[]⟩) _) ?_ ?_ ?_ ?_ ?_
        · intro y hy; unfold p3L at hy; simp at hy; rcases hy with rfl | rfl | rfl | rfl | rfl <;> rfl
        · unfold maxLen; omega
        · omega
        · have h1 := hPs.out.lt; exact Nat.le_trans h1 bA.size
        intro v' w2 hown3 hgrow _
        have hp := OwnOf.push (RP3.stab (e := 24)) HL.out.2.1 hcl hcz hown2 hR hgrow hown3 rfl (show RP3 _ _ (ra, rb, rc) from rfl)
        have b2 := Below.grown (bS.out.trans (bA.mono bS.out.size)) hgrow (Nat.le_trans bS.out.size bA.size) (fun g hg => by have := (hown2.lt g hg).1; omega)
        have hP2 : Hid (PlainAt w2 w.heap.size (plainC ra rb rc ⟨#[]⟩ ⟨#[]⟩)) := by
          have h1 := hPs.out.below8 bA
          exact (hgrow.block _ h1.lt (fun e => by have := (hown2.lt _ e.symm).1; omega)).trans h1
        have HN : Hid (OwnOf RP3 5 (w.heap.size + 1) 24 w2 v' (L ++ [(ra, rb, rc)]) ∧ (L ++ [(ra, rb, rc)]).length = k + 1 + 1 ∧ (L ++ [(ra, rb, rc)])[k + 1]? = some (runP v (S.take (k + 1)))) := ⟨hp, by simp [HL.out.2.1], by rw [HRun.out, ← HL.out.2.1]; simp⟩
        have hP3 : Hid (PlainAt w2 w.heap.size (plainC (runP v (S.take (k + 1))).1 (runP v (S.take (k + 1))).2.1 (runP v (S.take (k + 1))).2.2 ⟨#[]⟩ ⟨#[]⟩)) := by rw [HRun.out]; exact hP2
        clear hgrow hown3 hown2 hR hcz hcl hp bA hP2
        go_wp2_with fail
        go_roundw
        case rel => exact ⟨k + 1, L ++ [(ra, rb, rc)], by omega, by go_num, HN, hP3, b2⟩
        case measure => simp [intOf]; omega
      · have HC := Lib.hid (step_in1 (qa, qb, qc) HIn.out HOk.out wr HT.out)
        obtain ⟨r, hr⟩ : ∃ r, Hid (stepP (qa, qb, qc) 1 = r) := ⟨_, rfl⟩
        rw [hr.out] at HC
        obtain ⟨ra, rb, rc⟩ := r
        have HRun : Hid (runP v (S.take (k + 1)) = (ra, rb, rc)) := by show _ = _; rw [take_snoc S k _ HS.out, runP_snoc, hq.out, hr.out]
        go_wp2_with fail
        refine HC.out.mono ?_
        rintro e w1 ⟨rfl, hb1⟩
        have hP1 := Lib.hid (HP.out.below8 hb1)
        have HL1 := Lib.hid (HL.out.1.below RP3.mono hb1)
        have bw1 := hb.trans (hb1.mono hb.size)
        clear p0 p1 p2 p3 p4 hb1 HC
        have p0 := hP1.out.cell 0
        have p1 := hP1.out.cell 1
        have p2 := hP1.out.cell 2
        have p3 := hP1.out.cell 3
        have p4 := hP1.out.cell 4
        have f0 : w1.frozen? ⟨w.heap.size, 0, none⟩ = false := by simp [World.frozen?, show w1.heap[w.heap.size]? = _ from hP1.out]
        have f1 : w1.frozen? ⟨w.heap.size, 1, none⟩ = false := by simp [World.frozen?, show w1.heap[w.heap.size]? = _ from hP1.out]
        have f2 : w1.frozen? ⟨w.heap.size, 2, none⟩ = false := by simp [World.frozen?, show w1.heap[w.heap.size]? = _ from hP1.out]
        have f3 : w1.frozen? ⟨w.heap.size, 3, none⟩ = false := by simp [World.frozen?, show w1.heap[w.heap.size]? = _ from hP1.out]
        have f4 : w1.frozen? ⟨w.heap.size, 4, none⟩ = false := by simp [World.frozen?, show w1.heap[w.heap.size]? = _ from hP1.out]
        have hPs := Lib.hid (plain_store9 hP1.out ra rb rc ⟨#[]⟩ ⟨#[]⟩)
        have bS := Lib.hid (below_store9 (Nat.le_refl w.heap.size) (.int .u64 ra) (.int .u64 rb) (.int .u64 rc) (.string ⟨#[]⟩) (.string ⟨#[]⟩) w bw1)
        have HLs := Lib.hid (own_store9 (g := w.heap.size) (.int .u64 ra) (.int .u64 rb) (.int .u64 rc) (.string ⟨#[]⟩) (.string ⟨#[]⟩) (fun _ _ _ _ h => h) HL1.out (fun g hg => by have := HL1.out.lt g hg; omega))
        have hsz : Hid ((((((w1.setCell ⟨w.heap.size, 0, none⟩ (.int .u64 ra)).setCell ⟨w.heap.size, 1, none⟩ (.int .u64 rb)).setCell ⟨w.heap.size, 2, none⟩ (.int .u64 rc)).setCell ⟨w.heap.size, 3, none⟩ (.string ⟨#[]⟩)).setCell ⟨w.heap.size, 4, none⟩ (.string ⟨#[]⟩)).heap.size = w1.heap.size) := by show _ = _; simp
        go_wp2_with (at_builtin; refine stop_here ?_)
        unfold Stop
        generalize (((((w1.setCell ⟨w.heap.size, 0, none⟩ (.int .u64 ra)).setCell ⟨w.heap.size, 1, none⟩ (.int .u64 rb)).setCell ⟨w.heap.size, 2, none⟩ (.int .u64 rc)).setCell ⟨w.heap.size, 3, none⟩ (.string ⟨#[]⟩)).setCell ⟨w.heap.size, 4, none⟩ (.string ⟨#[]⟩)) = ws at *
        clear p0 p1 p2 p3 p4 f0 f1 f2 f3 f4 hP1 HL1 bw1
        have bA := (Below.refl ws.heap.size ws).alloc (Nat.le_refl _) (.cells (plainC ra rb rc ⟨#[]⟩ ⟨#[]⟩) 24)
        obtain ⟨cs, hcl, hcz, hown2, hR⟩ := HLs.out.below RP3.mono bA
        rw [HL.out.2.1] at hown2 hcl
        refine wpList_append_own _ rfl _ _ 30 rfl _ 24 i0 (.agg #[.int .u64 0, .int .u64 0, .int .u64 0, .string ByteArray.empty, .string ByteArray.empty]) 5 56 Tryd.underlying30 hi hz0 hz1 hz2 rfl (by decide) _ _ _ rfl hown2 ⟨w1.heap.size, 0, none⟩ 1 1 (p3L (ra, rb, rc)) rfl rfl (by rw [← hsz.out]; exact cells_new ws (plainC ra rb rc ⟨#[]⟩ ⟨#[]⟩) _) ?_ ?_ ?_ ?_ ?_
        · intro y hy; unfold p3L at hy; simp at hy; rcases hy with rfl | rfl | rfl | rfl | rfl <;> rfl
        · unfold maxLen; omega
        · omega
        · have h1 := hPs.out.lt; exact Nat.le_trans h1 bA.size
        intro v' w2 hown3 hgrow _
        have hp := OwnOf.push (RP3.stab (e := 24)) HL.out.2.1 hcl hcz hown2 hR hgrow hown3 rfl (show RP3 _ _ (ra, rb, rc) from rfl)
        have b2 := Below.grown (bS.out.trans (bA.mono bS.out.size)) hgrow (Nat.le_trans bS.out.size bA.size) (fun g hg => by have := (hown2.lt g hg).1; omega)
        have hP2 : Hid (PlainAt w2 w.heap.size (plainC ra rb rc ⟨#[]⟩ ⟨#[]⟩)) := by
          have h1 := hPs.out.below8 bA
          exact (hgrow.block _ h1.lt (fun e => by have := (hown2.lt _ e.symm).1; omega)).trans h1
        have HN : Hid (OwnOf RP3 5 (w.heap.size + 1) 24 w2 v' (L ++ [(ra, rb, rc)]) ∧ (L ++ [(ra, rb, rc)]).length = k + 1 + 1 ∧ (L ++ [(ra, rb, rc)])[k + 1]? = some (runP v (S.take (k + 1)))) := ⟨hp, by simp [HL.out.2.1], by rw [HRun.out, ← HL.out.2.1]; simp⟩
        have hP3 : Hid (PlainAt w2 w.heap.size (plainC (runP v (S.take (k + 1))).1 (runP v (S.take (k + 1))).2.1 (runP v (S.take (k + 1))).2.2 ⟨#[]⟩ ⟨#[]⟩)) := by rw [HRun.out]; exact hP2
        clear hgrow hown3 hown2 hR hcz hcl hp bA hP2
        go_wp2_with fail
        go_roundw
        case rel => exact ⟨k + 1, L ++ [(ra, rb, rc)], by omega, by go_num, HN, hP3, b2⟩
        case measure => simp [intOf]; omega
      · have HC := Lib.hid (step_in2 (qa, qb, qc) HIn.out HOk.out wr HT.out)
        obtain ⟨r, hr⟩ : ∃ r, Hid (stepP (qa, qb, qc) 2 = r) := ⟨_, rfl⟩
        rw [hr.out] at HC
        obtain ⟨ra, rb, rc⟩ := r
        have HRun : Hid (runP v (S.take (k + 1)) = (ra, rb, rc)) := by show _ = _; rw [take_snoc S k _ HS.out, runP_snoc, hq.out, hr.out]
        go_wp2_with fail
        refine HC.out.mono ?_
        rintro e w1 ⟨rfl, hb1⟩
        have hP1 := Lib.hid (HP.out.below8 hb1)
        have HL1 := Lib.hid (HL.out.1.below RP3.mono hb1)
        have bw1 := hb.trans (hb1.mono hb.size)
        clear p0 p1 p2 p3 p4 hb1 HC
        have p0 := hP1.out.cell 0
        have p1 := hP1.out.cell 1
        have p2 := hP1.out.cell 2
        have p3 := hP1.out.cell 3
        have p4 := hP1.out.cell 4
        have f0 : w1.frozen? ⟨w.heap.size, 0, none⟩ = false := by simp [World.frozen?, show w1.heap[w.heap.size]? = _ from hP1.out]
        have f1 : w1.frozen? ⟨w.heap.size, 1, none⟩ = false := by simp [World.frozen?, show w1.heap[w.heap.size]? = _ from hP1.out]
        have f2 : w1.frozen? ⟨w.heap.size, 2, none⟩ = false := by simp [World.frozen?, show w1.heap[w.heap.size]? = _ from hP1.out]
        have f3 : w1.frozen? ⟨w.heap.size, 3, none⟩ = false := by simp [World.frozen?, show w1.heap[w.heap.size]? = _ from hP1.out]
        have f4 : w1.frozen? ⟨w.heap.size, 4, none⟩ = false := by simp [World.frozen?, show w1.heap[w.heap.size]? = _ from hP1.out]
        have hPs := Lib.hid (plain_store9 hP1.out ra rb rc ⟨#[]⟩ ⟨#[]⟩)
        have bS := Lib.hid (below_store9 (Nat.le_refl w.heap.size) (.int .u64 ra) (.int .u64 rb) (.int .u64 rc) (.string ⟨#[]⟩) (.string ⟨#[]⟩) w bw1)
        have HLs := Lib.hid (own_store9 (g := w.heap.size) (.int .u64 ra) (.int .u64 rb) (.int .u64 rc) (.string ⟨#[]⟩) (.string ⟨#[]⟩) (fun _ _ _ _ h => h) HL1.out (fun g hg => by have := HL1.out.lt g hg; omega))
        have hsz : Hid ((((((w1.setCell ⟨w.heap.size, 0, none⟩ (.int .u64 ra)).setCell ⟨w.heap.size, 1, none⟩ (.int .u64 rb)).setCell ⟨w.heap.size, 2, none⟩ (.int .u64 rc)).setCell ⟨w.heap.size, 3, none⟩ (.string ⟨#[]⟩)).setCell ⟨w.heap.size, 4, none⟩ (.string ⟨#[]⟩)).heap.size = w1.heap.size) := by show _ = _; simp
        go_wp2_with (at_builtin; refine stop_here ?_)
        unfold Stop
        generalize (((((w1.setCell ⟨w.heap.size, 0, none⟩ (.int .u64 ra)).setCell ⟨w.heap.size, 1, none⟩ (.int .u64 rb)).setCell ⟨w.heap.size, 2, none⟩ (.int .u64 rc)).setCell ⟨w.heap.size, 3, none⟩ (.string ⟨#[]⟩)).setCell ⟨w.heap.size, 4, none⟩ (.string ⟨#[]⟩)) = ws at *
        clear p0 p1 p2 p3 p4 f0 f1 f2 f3 f4 hP1 HL1 bw1
        have bA := (Below.refl ws.heap.size ws).alloc (Nat.le_refl _) (.cells (plainC ra rb rc ⟨#[]⟩ ⟨#[]⟩) 24)
        obtain ⟨cs, hcl, hcz, hown2, hR⟩ := HLs.out.below RP3.mono bA
        rw [HL.out.2.1] at hown2 hcl
        refine wpList_append_own _ rfl _ _ 30 rfl _ 24 i0 (.agg #[.int .u64 0, .int .u64 0, .int .u64 0, .string ByteArray.empty, .string ByteArray.empty]) 5 56 Tryd.underlying30 hi hz0 hz1 hz2 rfl (by decide) _ _ _ rfl hown2 ⟨w1.heap.size, 0, none⟩ 1 1 (p3L (ra, rb, rc)) rfl rfl (by rw [← hsz.out]; exact cells_new ws (plainC ra rb rc ⟨#[]⟩ ⟨#[]⟩) _) ?_ ?_ ?_ ?_ ?_
        · intro y hy; unfold p3L at hy; simp at hy; rcases hy with rfl | rfl | rfl | rfl | rfl <;> rfl
        · unfold maxLen; omega
        · omega
        · have h1 := hPs.out.lt; exact Nat.le_trans h1 bA.size
        intro v' w2 hown3 hgrow _
        have hp := OwnOf.push (RP3.stab (e := 24)) HL.out.2.1 hcl hcz hown2 hR hgrow hown3 rfl (show RP3 _ _ (ra, rb, rc) from rfl)
        have b2 := Below.grown (bS.out.trans (bA.mono bS.out.size)) hgrow (Nat.le_trans bS.out.size bA.size) (fun g hg => by have := (hown2.lt g hg).1; omega)
        have hP2 : Hid (PlainAt w2 w.heap.size (plainC ra rb rc ⟨#[]⟩ ⟨#[]⟩)) := by
          have h1 := hPs.out.below8 bA
          exact (hgrow.block _ h1.lt (fun e => by have := (hown2.lt _ e.symm).1; omega)).trans h1
        have HN : Hid (OwnOf RP3 5 (w.heap.size + 1) 24 w2 v' (L ++ [(ra, rb, rc)]) ∧ (L ++ [(ra, rb, rc)]).length = k + 1 + 1 ∧ (L ++ [(ra, rb, rc)])[k + 1]? = some (runP v (S.take (k + 1)))) := ⟨hp, by simp [HL.out.2.1], by rw [HRun.out, ← HL.out.2.1]; simp⟩
        have hP3 : Hid (PlainAt w2 w.heap.size (plainC (runP v (S.take (k + 1))).1 (runP v (S.take (k + 1))).2.1 (runP v (S.take (k + 1))).2.2 ⟨#[]⟩ ⟨#[]⟩)) := by rw [HRun.out]; exact hP2
        clear hgrow hown3 hown2 hR hcz hcl hp bA hP2
        go_wp2_with fail
        go_roundw
        case rel => exact ⟨k + 1, L ++ [(ra, rb, rc)], by omega, by go_num, HN, hP3, b2⟩
        case measure => simp [intOf]; omega
    · obtain rfl : k = S.length := by omega
      have HF := HL.out
      rw [List.take_length] at HF
      have HF2 := Lib.hid HF
      clear HF
      go_wp2_with fail
      go_ret
      exact ⟨_, L, rfl, HF2.out.1, HF2.out.2.1, HF2.out.2.2, hb⟩
end Go.Proofs.YtjlbljajgkiniaaDoor
