/- cron.Parser.Parse of a text of fields. -/
import Derived.Test.YtkhggefbkhdimaaGreatDoorFeB
import Derived.Test.YtkhggefbkhdimaaGreatDoorFeC
import Derived.Deep.DeepCutAuto
import Derived.Deep.AppendLies
namespace Go.Proofs.YtkhggefbkhdimaaGreatDoor
open Go.RowKit Go.Shelf
set_option linter.unusedVariables false
set_option linter.unusedSimpArgs false

/-- The fields' texts that normalizeFields makes of the words ws under the options o. -/
def NormIs (o : Int) (ws : List ByteArray) (F : Nat → List UInt8) : Prop := ∀ (W : World) (B : Nat) (v : Value), W.ownsRow B 9 1 v ws.length (strsV ws) → B ≤ W.heap.size →
  Calls Tryz.prog 68 #[v, .int .i64 o] W fun e w' => ∃ G, e = .returned (.tuple #[.slice (some ⟨G, 0, none⟩) 6 6, .nilIface]) ∧ (∀ i, i < 6 → w'.cell? ⟨G, i, none⟩ = some (.string (mkB (F i)))) ∧ W.heap.size ≤ G ∧ W.grownBy w' v.ownBlock
def all6 (r : Nat → Option Nat) : Bool := (((((true && (r 0).isSome) && (r 1).isSome) && (r 2).isSome) && (r 3).isSome) && (r 4).isSome) && (r 5).isSome
/-- A schedule's cells. -/
def schedC (r : Nat → Option Nat) : Array Value := #[.int .u64 ((r 0).getD 0 : Nat), .int .u64 ((r 1).getD 0 : Nat), .int .u64 ((r 2).getD 0 : Nat), .int .u64 ((r 3).getD 0 : Nat), .int .u64 ((r 4).getD 0 : Nat), .int .u64 ((r 5).getD 0 : Nat), .pointer none]
def ParR (r : Nat → Option Nat) (w : World) (e : Ending) (w' : World) : Prop :=
  (all6 r = true → ∃ X, e = .returned (.tuple #[.iface 103 (.pointer (some ⟨X, 0, none⟩)), .nilIface]) ∧ w'.heap[X]? = some (.cells (schedC r) 105 (0, 0))) ∧
  (all6 r = false → ∃ t p, e = .returned (.tuple #[.nilIface, .iface t p])) ∧ Below w.heap.size w w'
/-- Where the variable err stands, and what has been written. -/
def StF (wb : World) (E : Nat) (s : Bool) (wx : World) : Prop := (∃ ev, EvIs s ev ∧ wx.cell? ⟨E, 0, none⟩ = some ev ∧ wx.frozen? ⟨E, 0, none⟩ = false) ∧ wb.grownBy wx (some E)
theorem wp_named' {P : Program} {c : Code} {Q : Exit → Act → World → Prop} {a : Act} {W : World} (h : ∀ W1, W = W1 → Code.wp P c Q a W1) : Code.wp P c Q a W := h W rfl
def CutF (wb : World) (E : Nat) (s : Bool) (r : Option Nat) (v : Value) (wx : World) : Prop := ∃ x : Int, v = .int .u64 x ∧ ((s && r.isSome) = true → ∃ n : Nat, r = some n ∧ x = n) ∧ StF wb E (s && r.isSome) wx
def CloIs (k : Nat) (M : Option Nat) (l : List UInt8) (r : Option Nat) : Prop := ∀ (w : World) (E : Nat) (s : Bool) (ev : Value), Hid (NamesAt k M w) → Hid (Errs w) → EvIs s ev → w.cell? ⟨E, 0, none⟩ = some ev → w.frozen? ⟨E, 0, none⟩ = false →
  Calls Tryz.prog 69 #[.string (mkB l), .agg #[.int .u64 (loK k : Nat), .int .u64 (hiK k : Nat), .map M], .pointer (some ⟨E, 0, none⟩)] w (CloR E s r w)
theorem errs_grown {w w' : World} {E : Nat} (h : Errs w) (hg : w.grownBy w' (some E)) (h1 : E ≠ 7) (h2 : E ≠ 8) : Errs w' := by
  obtain ⟨l1, l2, ⟨e1, c1, k1⟩, ⟨e2, c2, k2⟩⟩ := h
  exact ⟨Nat.lt_of_lt_of_le l1 hg.size, Nat.lt_of_lt_of_le l2 hg.size, ⟨e1, hg.cell c1 (by intro h; injection h with h; exact h1 h.symm), k1⟩, ⟨e2, hg.cell c2 (by intro h; injection h with h; exact h2 h.symm), k2⟩⟩

set_option maxRecDepth 100000 in
set_option maxHeartbeats 8000000 in
theorem parse_fields (o : Int) (s : ByteArray) (hs : s.size ≤ 65600) (h0 : s.size ≠ 0) (hp : Hid (plainB s.data.toList = true)) (hA : Lib.hasPrefix s.data.toList [84, 90, 61] = false) (hB : Lib.hasPrefix s.data.toList [67, 82, 79, 78, 95, 84, 90, 61] = false) (hC : Lib.hasPrefix s.data.toList [64] = false)
    (F : Nat → List UInt8) (hN : Hid (NormIs o (wordsB s) F)) (hF : ∀ i, (F i).length ≤ 65600) (w : World) (he : Hid (Errs w)) :
    Calls Tryz.prog 43 #[.agg #[.int .i64 o], .string s] w (ParR (fun i => fieldJ i (F i)) w) := by
  have HH : Hid (∀ (p : ByteArray) (W : World), Calls Tryz.prog 62 #[.string s, .string p] W fun e w' => e = .returned (.bool (Lib.hasPrefix s.data.toList p.data.toList)) ∧ w' = W) := Lib.hid (fun p W => Tryz.strings_HasPrefix s p W)
  have HA := Lib.hid hA
  have HB := Lib.hid hB
  have HC := Lib.hid hC
  have HW := Lib.hid (zzFields_any s (by omega) hp)
  have HCL : Hid (∀ k, k < 6 → ∀ M, CloIs k M (F k) (fieldJ k (F k))) := Lib.hid (fun k hk M W E sb ev h1 h2 h3 h4 h5 => clo_any k hk (F k) (by have := hF k; omega) M W h1 h2 E sb ev h3 h4 h5)
  have q0 : ((s.size : Int) == 0) = false := by simp only [beq_eq_false_iff_ne]; omega
  clear hA hB hC hF h0
  go_enter Tryz.func43, Tryz.ntmps43
  go_wp2_with (first | (go_at_call 62; refine (HH.out ⟨#[84, 90, 61]⟩ _).mono ?_; rintro e w' ⟨rfl, rfl⟩; rw [show (⟨#[84, 90, 61]⟩ : ByteArray).data.toList = [84, 90, 61] from rfl, HA.out]) | (go_at_call 62; refine (HH.out ⟨#[67, 82, 79, 78, 95, 84, 90, 61]⟩ _).mono ?_; rintro e w' ⟨rfl, rfl⟩; rw [show (⟨#[67, 82, 79, 78, 95, 84, 90, 61]⟩ : ByteArray).data.toList = [67, 82, 79, 78, 95, 84, 90, 61] from rfl, HB.out]) | (go_at_call 62; refine (HH.out ⟨#[64]⟩ _).mono ?_; rintro e w' ⟨rfl, rfl⟩; rw [show (⟨#[64]⟩ : ByteArray).data.toList = [64] from rfl, HC.out]))
  have e0 : (w.alloc (.cells #[.int .i64 o] 85)).heap[w.heap.size]? = some (.cells #[.int .i64 o] 85) := heap_alloc_new w _
  have hw0 : Below w.heap.size w (w.alloc (.cells #[.int .i64 o] 85)) := Below.alloc (Below.refl _ _) (Nat.le_refl _) _
  have hz0 : (w.alloc (.cells #[.int .i64 o] 85)).heap.size = w.heap.size + 1 := by simp
  refine (HW.out _).mono ?_
  rintro e w1 ⟨v1, rfl, hown1, hb1⟩
  have d0 : w1.cell? ⟨w.heap.size, 0, none⟩ = some (.int .i64 o) := cellB hb1 (cell_of_row _ _ 0 _ _ (0, 0) e0)
  have B1 := Lib.hid (hw0.trans (hb1.mono hw0.size))
  rw [hz0] at hown1
  have hz1 : w.heap.size + 1 ≤ w1.heap.size := by have := hb1.size; omega
  have HOW := Lib.hid (hown1.alloc (.cells #[.nilIface] 70))
  have HV := Lib.hid hown1.lt
  clear hb1 hw0 e0 hz0 hown1
  have d0a : (w1.alloc (.cells #[.nilIface] 70)).cell? ⟨w.heap.size, 0, none⟩ = some (.int .i64 o) := keepV d0
  go_wp2_with fail
  have eE : (w1.alloc (.cells #[.nilIface] 70)).heap[w1.heap.size]? = some (.cells #[.nilIface] 70) := heap_alloc_new w1 _
  have B2 := Lib.hid (B1.out.alloc B1.out.size (.cells #[.nilIface] 70))
  refine (hN.out _ _ v1 HOW.out (by simp; omega)).mono ?_
  rintro e w2 ⟨G, rfl, hy, hG, hgr⟩
  obtain ⟨E, hE⟩ : ∃ E, E = w1.heap.size := ⟨_, rfl⟩
  have hGE : E < G := by simp at hG; omega
  have hvE : ∀ k, v1.ownBlock = some k → w.heap.size + 1 ≤ k ∧ k < E := fun k hk => by rw [hE]; exact HV.out k hk
  have cE : w2.cell? ⟨E, 0, none⟩ = some .nilIface := hgr.cell (by rw [hE]; exact cell_of_row _ _ 0 _ _ (0, 0) eE) (by intro h; have := hvE E h.symm; omega)
  have fE : w2.frozen? ⟨E, 0, none⟩ = false := by
    rw [hgr.frozen_far ⟨E, 0, none⟩ (by rw [hE]; simp) (by intro h; have := hvE E h.symm; omega)]
    rw [hE]
    unfold World.frozen?
    rw [eE]
    simp
  have B3 := Lib.hid (Below.grown B2.out hgr B2.out.size (fun k hk => by have := hvE k hk; omega))
  have HY := Lib.hid hy
  have hwE : w.heap.size < E := by rw [hE]; omega
  rw [← hE]
  clear hE hvE hgr eE hG hy HOW HV
  go_upto_region 22 with fail
  refine wp_named' ?_
  intro wb hwb
  have HBb : Hid (Below w.heap.size w wb) := Lib.hid (by rw [← hwb]; exact Below.setCell B3.out (by show w.heap.size ≤ E; omega) _)
  have HYb : Hid (∀ i, i < 6 → wb.cell? ⟨G, i, none⟩ = some (.string (mkB (F i)))) := Lib.hid (fun i hi => by
    rw [← hwb, World.cell?_setCell_other _ _ _ _ (by intro h; injection h with h; omega)]
    exact HY.out i hi)
  have St0 : Hid (StF wb E true wb) := Lib.hid ⟨⟨.nilIface, ⟨fun _ => rfl, fun h => by cases h⟩, by rw [← hwb]; exact World.cell?_setCell_same _ _ _ cE, by rw [← hwb, World.frozen?_setCell]; exact fE⟩, World.grownBy.refl _ _⟩
  have HEb : Hid (Errs wb) := Lib.hid (he.out.below HBb.out)
  have hg1 : E ≠ 7 := by have := he.out.1; omega
  have hg2 : E ≠ 8 := by have := he.out.2.1; omega
  clear hwb cE fE d0
  generalize hrr : (fun i => fieldJ i (F i)) = rr
  have HRR : Hid (∀ i, fieldJ i (F i) = rr i) := Lib.hid (fun i => by rw [← hrr])
  clear hrr
  obtain ⟨s1, hs1⟩ : ∃ s1, s1 = (true && (rr 0).isSome) := ⟨_, rfl⟩
  have HCi : Hid (∀ M, CloIs 0 M (F 0) (rr 0)) := Lib.hid (fun M => by rw [← HRR.out 0]; exact HCL.out 0 (by omega) M)
  go_cut [13] (fun v wx => CutF wb E true (rr 0) v wx)
  case first =>
    obtain ⟨⟨ev, hev, hce, hfe⟩, hg⟩ := St0.out
    have hyi : wb.cell? ⟨G, 0, none⟩ = some (.string (mkB (F 0))) := hg.cell (HYb.out 0 (by omega)) (by intro h; injection h with h; have h : G = E := h; omega)
    have HEi : Hid (Errs wb) := Lib.hid (errs_grown HEb.out hg hg1 hg2)
    have HG9 := Lib.hid hg
    have HEV := Lib.hid hev
    clear hg hev
    go_region_with (first | (go_at_call 71; refine (seconds_any _).mono ?_; rintro e W1 ⟨M, rfl, hM, hb⟩; have bW : Below wb.heap.size wb W1 := ⟨hb.os, hb.tape, hb.output, hb.size, hb.block⟩; have HM := Lib.hid hM; have hceW := cellB bW hce; have hfeW := Lib.hid ((bW.frozen (p := ⟨E, 0, none⟩) (cellLt (a := ⟨E, 0, none⟩) hce)).trans hfe); have hyW := cellB bW hyi; have HEW : Hid (Errs W1) := Lib.hid (HEi.out.below bW); have BW := Lib.hid bW; clear hM hb bW) | (go_at_call 69; refine (HCi.out M W1 E true ev HM HEW HEV.out hceW hfeW.out).mono ?_; rintro e W2 ⟨x, ev2, rfl, hev2, hx2, hc2, hf2, hg2⟩; have HV2 := Lib.hid hev2; have HX2 := Lib.hid hx2; have HC2 := Lib.hid hc2; have HF2 := Lib.hid hf2; have HG2 := Lib.hid hg2; clear hev2 hx2 hc2 hf2 hg2))
    all_goals (go_wp2_with fail; go_meet; exact ⟨x, rfl, HX2.out, ⟨⟨ev2, HV2.out, HC2.out, HF2.out⟩, (HG9.out.trans (Lib.grownBy_below (World.grownBy.refl _ _) BW.out)).trans HG2.out⟩⟩)
  case rest =>
  obtain ⟨x0, rfl, hx0, hst⟩ := hcut
  have HX0 := Lib.hid hx0
  have St1 : Hid (StF wb E s1 wc) := Lib.hid (by rw [hs1]; exact hst)
  have HS1 := Lib.hid hs1
  clear hst hx0 hs1
  generalize wc = y1 at *
  go_upto_region 23 with fail
  obtain ⟨s2, hs2⟩ : ∃ s2, s2 = (s1 && (rr 1).isSome) := ⟨_, rfl⟩
  have HCi : Hid (∀ M, CloIs 1 M (F 1) (rr 1)) := Lib.hid (fun M => by rw [← HRR.out 1]; exact HCL.out 1 (by omega) M)
  go_cut [14] (fun v wx => CutF wb E s1 (rr 1) v wx)
  case first =>
    obtain ⟨⟨ev, hev, hce, hfe⟩, hg⟩ := St1.out
    have hyi : y1.cell? ⟨G, 1, none⟩ = some (.string (mkB (F 1))) := hg.cell (HYb.out 1 (by omega)) (by intro h; injection h with h; have h : G = E := h; omega)
    have HEi : Hid (Errs y1) := Lib.hid (errs_grown HEb.out hg hg1 hg2)
    have HG9 := Lib.hid hg
    have HEV := Lib.hid hev
    clear hg hev
    go_region_with (first | (go_at_call 72; refine (minutes_any _).mono ?_; rintro e W1 ⟨M, rfl, hM, hb⟩; have bW : Below y1.heap.size y1 W1 := ⟨hb.os, hb.tape, hb.output, hb.size, hb.block⟩; have HM := Lib.hid hM; have hceW := cellB bW hce; have hfeW := Lib.hid ((bW.frozen (p := ⟨E, 0, none⟩) (cellLt (a := ⟨E, 0, none⟩) hce)).trans hfe); have hyW := cellB bW hyi; have HEW : Hid (Errs W1) := Lib.hid (HEi.out.below bW); have BW := Lib.hid bW; clear hM hb bW) | (go_at_call 69; refine (HCi.out M W1 E s1 ev HM HEW HEV.out hceW hfeW.out).mono ?_; rintro e W2 ⟨x, ev2, rfl, hev2, hx2, hc2, hf2, hg2⟩; have HV2 := Lib.hid hev2; have HX2 := Lib.hid hx2; have HC2 := Lib.hid hc2; have HF2 := Lib.hid hf2; have HG2 := Lib.hid hg2; clear hev2 hx2 hc2 hf2 hg2))
    all_goals (go_wp2_with fail; go_meet; exact ⟨x, rfl, HX2.out, ⟨⟨ev2, HV2.out, HC2.out, HF2.out⟩, (HG9.out.trans (Lib.grownBy_below (World.grownBy.refl _ _) BW.out)).trans HG2.out⟩⟩)
  case rest =>
  obtain ⟨x1, rfl, hx1, hst⟩ := hcut
  have HX1 := Lib.hid hx1
  have St2 : Hid (StF wb E s2 wc) := Lib.hid (by rw [hs2]; exact hst)
  have HS2 := Lib.hid hs2
  clear hst hx1 hs2
  generalize wc = y2 at *
  go_upto_region 24 with fail
  obtain ⟨s3, hs3⟩ : ∃ s3, s3 = (s2 && (rr 2).isSome) := ⟨_, rfl⟩
  have HCi : Hid (∀ M, CloIs 2 M (F 2) (rr 2)) := Lib.hid (fun M => by rw [← HRR.out 2]; exact HCL.out 2 (by omega) M)
  go_cut [15] (fun v wx => CutF wb E s2 (rr 2) v wx)
  case first =>
    obtain ⟨⟨ev, hev, hce, hfe⟩, hg⟩ := St2.out
    have hyi : y2.cell? ⟨G, 2, none⟩ = some (.string (mkB (F 2))) := hg.cell (HYb.out 2 (by omega)) (by intro h; injection h with h; have h : G = E := h; omega)
    have HEi : Hid (Errs y2) := Lib.hid (errs_grown HEb.out hg hg1 hg2)
    have HG9 := Lib.hid hg
    have HEV := Lib.hid hev
    clear hg hev
    go_region_with (first | (go_at_call 73; refine (hours_any _).mono ?_; rintro e W1 ⟨M, rfl, hM, hb⟩; have bW : Below y2.heap.size y2 W1 := ⟨hb.os, hb.tape, hb.output, hb.size, hb.block⟩; have HM := Lib.hid hM; have hceW := cellB bW hce; have hfeW := Lib.hid ((bW.frozen (p := ⟨E, 0, none⟩) (cellLt (a := ⟨E, 0, none⟩) hce)).trans hfe); have hyW := cellB bW hyi; have HEW : Hid (Errs W1) := Lib.hid (HEi.out.below bW); have BW := Lib.hid bW; clear hM hb bW) | (go_at_call 69; refine (HCi.out M W1 E s2 ev HM HEW HEV.out hceW hfeW.out).mono ?_; rintro e W2 ⟨x, ev2, rfl, hev2, hx2, hc2, hf2, hg2⟩; have HV2 := Lib.hid hev2; have HX2 := Lib.hid hx2; have HC2 := Lib.hid hc2; have HF2 := Lib.hid hf2; have HG2 := Lib.hid hg2; clear hev2 hx2 hc2 hf2 hg2))
    all_goals (go_wp2_with fail; go_meet; exact ⟨x, rfl, HX2.out, ⟨⟨ev2, HV2.out, HC2.out, HF2.out⟩, (HG9.out.trans (Lib.grownBy_below (World.grownBy.refl _ _) BW.out)).trans HG2.out⟩⟩)
  case rest =>
  obtain ⟨x2, rfl, hx2, hst⟩ := hcut
  have HX2 := Lib.hid hx2
  have St3 : Hid (StF wb E s3 wc) := Lib.hid (by rw [hs3]; exact hst)
  have HS3 := Lib.hid hs3
  clear hst hx2 hs3
  generalize wc = y3 at *
  go_upto_region 25 with fail
  obtain ⟨s4, hs4⟩ : ∃ s4, s4 = (s3 && (rr 3).isSome) := ⟨_, rfl⟩
  have HCi : Hid (∀ M, CloIs 3 M (F 3) (rr 3)) := Lib.hid (fun M => by rw [← HRR.out 3]; exact HCL.out 3 (by omega) M)
  go_cut [16] (fun v wx => CutF wb E s3 (rr 3) v wx)
  case first =>
    obtain ⟨⟨ev, hev, hce, hfe⟩, hg⟩ := St3.out
    have hyi : y3.cell? ⟨G, 3, none⟩ = some (.string (mkB (F 3))) := hg.cell (HYb.out 3 (by omega)) (by intro h; injection h with h; have h : G = E := h; omega)
    have HEi : Hid (Errs y3) := Lib.hid (errs_grown HEb.out hg hg1 hg2)
    have HG9 := Lib.hid hg
    have HEV := Lib.hid hev
    clear hg hev
    go_region_with (first | (go_at_call 74; refine (dom_any _).mono ?_; rintro e W1 ⟨M, rfl, hM, hb⟩; have bW : Below y3.heap.size y3 W1 := ⟨hb.os, hb.tape, hb.output, hb.size, hb.block⟩; have HM := Lib.hid hM; have hceW := cellB bW hce; have hfeW := Lib.hid ((bW.frozen (p := ⟨E, 0, none⟩) (cellLt (a := ⟨E, 0, none⟩) hce)).trans hfe); have hyW := cellB bW hyi; have HEW : Hid (Errs W1) := Lib.hid (HEi.out.below bW); have BW := Lib.hid bW; clear hM hb bW) | (go_at_call 69; refine (HCi.out M W1 E s3 ev HM HEW HEV.out hceW hfeW.out).mono ?_; rintro e W2 ⟨x, ev2, rfl, hev2, hx2, hc2, hf2, hg2⟩; have HV2 := Lib.hid hev2; have HX2 := Lib.hid hx2; have HC2 := Lib.hid hc2; have HF2 := Lib.hid hf2; have HG2 := Lib.hid hg2; clear hev2 hx2 hc2 hf2 hg2))
    all_goals (go_wp2_with fail; go_meet; exact ⟨x, rfl, HX2.out, ⟨⟨ev2, HV2.out, HC2.out, HF2.out⟩, (HG9.out.trans (Lib.grownBy_below (World.grownBy.refl _ _) BW.out)).trans HG2.out⟩⟩)
  case rest =>
  obtain ⟨x3, rfl, hx3, hst⟩ := hcut
  have HX3 := Lib.hid hx3
  have St4 : Hid (StF wb E s4 wc) := Lib.hid (by rw [hs4]; exact hst)
  have HS4 := Lib.hid hs4
  clear hst hx3 hs4
  generalize wc = y4 at *
  go_upto_region 26 with fail
  obtain ⟨s5, hs5⟩ : ∃ s5, s5 = (s4 && (rr 4).isSome) := ⟨_, rfl⟩
  have HCi : Hid (∀ M, CloIs 4 M (F 4) (rr 4)) := Lib.hid (fun M => by rw [← HRR.out 4]; exact HCL.out 4 (by omega) M)
  go_cut [17] (fun v wx => CutF wb E s4 (rr 4) v wx)
  case first =>
    obtain ⟨⟨ev, hev, hce, hfe⟩, hg⟩ := St4.out
    have hyi : y4.cell? ⟨G, 4, none⟩ = some (.string (mkB (F 4))) := hg.cell (HYb.out 4 (by omega)) (by intro h; injection h with h; have h : G = E := h; omega)
    have HEi : Hid (Errs y4) := Lib.hid (errs_grown HEb.out hg hg1 hg2)
    have HG9 := Lib.hid hg
    have HEV := Lib.hid hev
    clear hg hev
    go_region_with (first | (go_at_call 75; refine (months_any _).mono ?_; rintro e W1 ⟨M, rfl, hM, hb⟩; have bW : Below y4.heap.size y4 W1 := ⟨hb.os, hb.tape, hb.output, hb.size, hb.block⟩; have HM := Lib.hid hM; have hceW := cellB bW hce; have hfeW := Lib.hid ((bW.frozen (p := ⟨E, 0, none⟩) (cellLt (a := ⟨E, 0, none⟩) hce)).trans hfe); have hyW := cellB bW hyi; have HEW : Hid (Errs W1) := Lib.hid (HEi.out.below bW); have BW := Lib.hid bW; clear hM hb bW) | (go_at_call 69; refine (HCi.out M W1 E s4 ev HM HEW HEV.out hceW hfeW.out).mono ?_; rintro e W2 ⟨x, ev2, rfl, hev2, hx2, hc2, hf2, hg2⟩; have HV2 := Lib.hid hev2; have HX2 := Lib.hid hx2; have HC2 := Lib.hid hc2; have HF2 := Lib.hid hf2; have HG2 := Lib.hid hg2; clear hev2 hx2 hc2 hf2 hg2))
    all_goals (go_wp2_with fail; go_meet; exact ⟨x, rfl, HX2.out, ⟨⟨ev2, HV2.out, HC2.out, HF2.out⟩, (HG9.out.trans (Lib.grownBy_below (World.grownBy.refl _ _) BW.out)).trans HG2.out⟩⟩)
  case rest =>
  obtain ⟨x4, rfl, hx4, hst⟩ := hcut
  have HX4 := Lib.hid hx4
  have St5 : Hid (StF wb E s5 wc) := Lib.hid (by rw [hs5]; exact hst)
  have HS5 := Lib.hid hs5
  clear hst hx4 hs5
  generalize wc = y5 at *
  go_upto_region 27 with fail
  obtain ⟨s6, hs6⟩ : ∃ s6, s6 = (s5 && (rr 5).isSome) := ⟨_, rfl⟩
  have HCi : Hid (∀ M, CloIs 5 M (F 5) (rr 5)) := Lib.hid (fun M => by rw [← HRR.out 5]; exact HCL.out 5 (by omega) M)
  go_cut [18] (fun v wx => CutF wb E s5 (rr 5) v wx)
  case first =>
    obtain ⟨⟨ev, hev, hce, hfe⟩, hg⟩ := St5.out
    have hyi : y5.cell? ⟨G, 5, none⟩ = some (.string (mkB (F 5))) := hg.cell (HYb.out 5 (by omega)) (by intro h; injection h with h; have h : G = E := h; omega)
    have HEi : Hid (Errs y5) := Lib.hid (errs_grown HEb.out hg hg1 hg2)
    have HG9 := Lib.hid hg
    have HEV := Lib.hid hev
    clear hg hev
    go_region_with (first | (go_at_call 76; refine (dow_any _).mono ?_; rintro e W1 ⟨M, rfl, hM, hb⟩; have bW : Below y5.heap.size y5 W1 := ⟨hb.os, hb.tape, hb.output, hb.size, hb.block⟩; have HM := Lib.hid hM; have hceW := cellB bW hce; have hfeW := Lib.hid ((bW.frozen (p := ⟨E, 0, none⟩) (cellLt (a := ⟨E, 0, none⟩) hce)).trans hfe); have hyW := cellB bW hyi; have HEW : Hid (Errs W1) := Lib.hid (HEi.out.below bW); have BW := Lib.hid bW; clear hM hb bW) | (go_at_call 69; refine (HCi.out M W1 E s5 ev HM HEW HEV.out hceW hfeW.out).mono ?_; rintro e W2 ⟨x, ev2, rfl, hev2, hx2, hc2, hf2, hg2⟩; have HV2 := Lib.hid hev2; have HX2 := Lib.hid hx2; have HC2 := Lib.hid hc2; have HF2 := Lib.hid hf2; have HG2 := Lib.hid hg2; clear hev2 hx2 hc2 hf2 hg2))
    all_goals (go_wp2_with fail; go_meet; exact ⟨x, rfl, HX2.out, ⟨⟨ev2, HV2.out, HC2.out, HF2.out⟩, (HG9.out.trans (Lib.grownBy_below (World.grownBy.refl _ _) BW.out)).trans HG2.out⟩⟩)
  case rest =>
  obtain ⟨x5, rfl, hx5, hst⟩ := hcut
  have HX5 := Lib.hid hx5
  have St6 : Hid (StF wb E s6 wc) := Lib.hid (by rw [hs6]; exact hst)
  have HS6 := Lib.hid hs6
  clear hst hx5 hs6
  generalize wc = y6 at *
  have HALL : Hid (all6 rr = s6) := Lib.hid (by unfold all6; rw [← HS1.out, ← HS2.out, ← HS3.out, ← HS4.out, ← HS5.out, ← HS6.out])
  have HFN : Hid ((fun i => fieldJ i (F i)) = rr) := Lib.hid (funext HRR.out)
  obtain ⟨⟨ev6, hev6, hce6, hfe6⟩, hg6⟩ := St6.out
  have HB6 := Lib.hid (Below.grown HBb.out hg6 HBb.out.size (fun k hk => by cases hk; omega))
  have HEV6 := Lib.hid hev6
  clear hev6 hfe6 hg6
  cases s6 with
  | true =>
    obtain rfl := HEV6.out.1 rfl
    have hS5 : s5 = true := by have := HS6.out; simp at this; exact this.1
    have hS4 : s4 = true := by have := HS5.out; rw [hS5] at this; simp at this; exact this.1
    have hS3 : s3 = true := by have := HS4.out; rw [hS4] at this; simp at this; exact this.1
    have hS2 : s2 = true := by have := HS3.out; rw [hS3] at this; simp at this; exact this.1
    have hS1 : s1 = true := by have := HS2.out; rw [hS2] at this; simp at this; exact this.1
    have G0 : Hid (x0 = (((rr 0).getD 0 : Nat) : Int)) := Lib.hid (by
      obtain ⟨n, h1, h2⟩ := HX0.out (by have := HS1.out; rw [← this]; exact hS1)
      rw [h1, h2]
      rfl)
    have G1 : Hid (x1 = (((rr 1).getD 0 : Nat) : Int)) := Lib.hid (by
      obtain ⟨n, h1, h2⟩ := HX1.out (by have := HS2.out; rw [← this]; exact hS2)
      rw [h1, h2]
      rfl)
    have G2 : Hid (x2 = (((rr 2).getD 0 : Nat) : Int)) := Lib.hid (by
      obtain ⟨n, h1, h2⟩ := HX2.out (by have := HS3.out; rw [← this]; exact hS3)
      rw [h1, h2]
      rfl)
    have G3 : Hid (x3 = (((rr 3).getD 0 : Nat) : Int)) := Lib.hid (by
      obtain ⟨n, h1, h2⟩ := HX3.out (by have := HS4.out; rw [← this]; exact hS4)
      rw [h1, h2]
      rfl)
    have G4 : Hid (x4 = (((rr 4).getD 0 : Nat) : Int)) := Lib.hid (by
      obtain ⟨n, h1, h2⟩ := HX4.out (by have := HS5.out; rw [← this]; exact hS5)
      rw [h1, h2]
      rfl)
    have G5 : Hid (x5 = (((rr 5).getD 0 : Nat) : Int)) := Lib.hid (by
      obtain ⟨n, h1, h2⟩ := HX5.out (HS6.out.symm)
      rw [h1, h2]
      rfl)
    clear hS1 hS2 hS3 hS4 hS5
    go_wp2_with fail
    go_ret2
    rw [HFN.out]
    refine ⟨fun _ => ⟨y6.heap.size, rfl, ?_⟩, (fun h => by rw [HALL.out] at h; cases h), HB6.out.alloc HB6.out.size _⟩
    unfold schedC
    rw [← G0.out, ← G1.out, ← G2.out, ← G3.out, ← G4.out, ← G5.out]
    exact heap_alloc_new y6 _
  | false =>
    obtain ⟨t6, p6, rfl⟩ := HEV6.out.2 rfl
    go_wp2_with fail
    go_quiet (fail)
    go_wp2_with fail
    go_ret2
    rw [HFN.out]
    exact ⟨(fun h => by rw [HALL.out] at h; cases h), (fun _ => ⟨t6, p6, rfl⟩), below_drewN HB6.out _⟩
end Go.Proofs.YtkhggefbkhdimaaGreatDoor
