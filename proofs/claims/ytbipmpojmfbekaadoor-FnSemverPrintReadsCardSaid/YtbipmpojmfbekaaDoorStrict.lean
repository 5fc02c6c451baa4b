/- semver.StrictNewVersion of a printed version. -/
import Derived.Test.YtbipmpojmfbekaaDoorValid
import Derived.Test.YtbipmpojmfbekaaDoorVerOps
import Derived.Laws.OwnMore
namespace Go.Proofs.YtbipmpojmfbekaaDoor
open Go.RowKit
set_option linter.unusedVariables false
set_option linter.unusedSimpArgs false

theorem contains_any (s : ByteArray) (c : UInt8) (hs : s.size < maxLen) (w : World) :
    Calls Tryd.prog 22 #[.string s, .string ⟨#[c]⟩] w fun e w' => e = .returned (.bool (decide (0 ≤ fstInt s.data.toList c.toNat))) ∧ w = w' := by
  go_enter Tryd.func22, Tryd.ntmps22
  go_wp2_with fail
  refine (indexSv_any s c hs _).mono ?_
  rintro e w' ⟨rfl, rfl⟩
  go_wp2_with fail
  go_ret
  exact ⟨rfl, rfl⟩
theorem setS {w : World} {a : Addr} {v u : Value} (hc : w.cell? a = some u) : (w.setCell a v).cell? a = some v := World.cell?_setCell_same _ _ _ hc
theorem setO {w : World} {g i h j : Nat} {v u : Value} (hn : g ≠ h ∨ i ≠ j) (hc : w.cell? ⟨h, j, none⟩ = some u) : (w.setCell ⟨g, i, none⟩ v).cell? ⟨h, j, none⟩ = some u :=
  (World.cell?_setCell_other _ _ _ _ (by intro e; injection e with e1 e2; omega)).trans hc
/-- A number's text: digits, no leading zero. -/
def NumOk (x : ByteArray) : Prop := plainB x.data.toList = true ∧ onlyB x numT = true ∧ (1 < x.size → ∀ h : 0 < x.size, (((x[0]'h).toNat : Int) == 48) = false) ∧ badN x = false ∧ x.size ≤ 256
def StrictPost (a b c : Int) (p m o : ByteArray) (w : World) (e : Ending) (w' : World) : Prop := ∃ g, e = .returned (.tuple #[.pointer (some ⟨g, 0, none⟩), .nilIface]) ∧ (w'.cell? ⟨g, 0, none⟩ = some (.int .u64 a) ∧ w'.cell? ⟨g, 1, none⟩ = some (.int .u64 b) ∧ w'.cell? ⟨g, 2, none⟩ = some (.int .u64 c) ∧ w'.cell? ⟨g, 3, none⟩ = some (.string p) ∧ w'.cell? ⟨g, 4, none⟩ = some (.string m) ∧ w'.cell? ⟨g, 5, none⟩ = some (.string o)) ∧ Below w.heap.size w w'
theorem cellLt9 {w : World} {a : Addr} {v : Value} (h : w.cell? a = some v) : a.block < w.heap.size := by
  rcases Nat.lt_or_ge a.block w.heap.size with h1 | h1
  · exact h1
  · have : w.heap[a.block]? = none := Array.getElem?_eq_none h1
    simp [World.cell?, this] at h
theorem cellB9 {X Y : World} {a : Addr} {v : Value} (hb : Below X.heap.size X Y) (h : X.cell? a = some v) : Y.cell? a = some v := (hb.cell (cellLt9 h)).trans h

set_option maxRecDepth 100000 in
set_option maxHeartbeats 8000000 in
theorem strict_mp (t A B C P M C0 C1 : ByteArray) (h0 : 0 < t.size) (h1 : t.size ≤ 256) (zA : A.size ≤ 256) (s0 : C0.size ≤ 256) (s1 : C1.size ≤ 256) (zP : P.size ≤ 256) (zM : M.size ≤ 256) (HT : Hid (cutN 46 2 t = [A, B, C0]))
    (H43 : Hid (cutN 43 1 C0 = [C1, M] ∧ 0 ≤ fstInt C0.data.toList 43)) (H45 : Hid (cutN 45 1 C1 = [C, P] ∧ 0 ≤ fstInt C1.data.toList 45))
    (nA : Hid (NumOk A)) (nB : Hid (NumOk B)) (nC : Hid (NumOk C)) (hM : Hid ((cutB 46 M).all vidB = true)) (hP : Hid ((cutB 46 P).all preOk = true)) (w : World) :
    Calls Tryd.prog 13 #[.string t] w (StrictPost (numN A : Nat) (numN B : Nat) (numN C : Nat) P M t w) := by
  have i1 : ((t.size : Int) == 0) = false := by rw [beq_eq_false_iff_ne]; omega
  have i2 : (256 < (t.size : Int)) = False := eq_false (by omega)
  go_enter Tryd.func13, Tryd.ntmps13
  go_wp2_with fail
  refine (splitN_any t 46 (by omega) 2 (by omega) 3 rfl _).mono ?_
  rintro e w1 ⟨v1, rfl, hown1, hb1⟩
  rw [show ((46 : UInt8).toNat : Int) = 46 from rfl, HT.out] at hown1
  obtain ⟨g1, cap1, rfl, hc1, hm1, hcell1⟩ := own_open hown1 (by simp)
  have x0 : w1.cell? ⟨g1, 0, none⟩ = some (.string A) := hcell1 0 (by simp)
  have x1 : w1.cell? ⟨g1, 1, none⟩ = some (.string B) := hcell1 1 (by simp)
  have x2 : w1.cell? ⟨g1, 2, none⟩ = some (.string C0) := hcell1 2 (by simp)
  have f2 : w1.frozen? ⟨g1, 2, none⟩ = false := hown1.frozenAt 2
  have lg1 := (hown1.lt g1 rfl).1
  simp only [List.length_cons, List.length_nil, Nat.zero_add, Nat.reduceAdd] at hc1 ⊢
  unfold maxLen at hm1
  have bk : Below w.heap.size w w1 := hb1
  have nk : w.heap.size ≤ w1.heap.size := bk.size
  have lt1 := (hown1.lt g1 rfl).2
  have ne1 : (g1 = w1.heap.size) = False := eq_false (by omega)
  have ne2 : (w1.heap.size = g1) = False := eq_false (by omega)
  clear hown1 hcell1 hb1
  go_wp2_with fail
  have bkV : Below w1.heap.size w1 (w1.alloc (.cells (verC 0 0 0 ⟨#[]⟩ ⟨#[]⟩ t) 46)) := (Below.refl _ _).alloc (Nat.le_refl _) _
  have hV := heap_alloc_new w1 (.cells (verC 0 0 0 ⟨#[]⟩ ⟨#[]⟩ t) 46)
  replace x0 := keepV (o := (.cells (verC 0 0 0 ⟨#[]⟩ ⟨#[]⟩ t) 46)) x0
  replace x1 := keepV (o := (.cells (verC 0 0 0 ⟨#[]⟩ ⟨#[]⟩ t) 46)) x1
  replace x2 := keepV (o := (.cells (verC 0 0 0 ⟨#[]⟩ ⟨#[]⟩ t) 46)) x2
  replace f2 := (bkV.frozen (p := ⟨g1, 2, none⟩) lt1).trans f2
  have lgv := nk
  have bw : Below w.heap.size w (w1.alloc (.cells (verC 0 0 0 ⟨#[]⟩ ⟨#[]⟩ t) 46)) := bk.trans (bkV.mono nk)
  clear bkV bk nk
  have vr0 : (w1.alloc (.cells (verC 0 0 0 ⟨#[]⟩ ⟨#[]⟩ t) 46)).cell? ⟨w1.heap.size, 0, none⟩ = some (.int .u64 0) := cell_of_row _ w1.heap.size 0 _ _ (0, 0) hV
  have z0 : (w1.alloc (.cells (verC 0 0 0 ⟨#[]⟩ ⟨#[]⟩ t) 46)).frozen? ⟨w1.heap.size, 0, none⟩ = false := by unfold World.frozen?; rw [hV]; simp
  have vr1 : (w1.alloc (.cells (verC 0 0 0 ⟨#[]⟩ ⟨#[]⟩ t) 46)).cell? ⟨w1.heap.size, 1, none⟩ = some (.int .u64 0) := cell_of_row _ w1.heap.size 1 _ _ (0, 0) hV
  have z1 : (w1.alloc (.cells (verC 0 0 0 ⟨#[]⟩ ⟨#[]⟩ t) 46)).frozen? ⟨w1.heap.size, 1, none⟩ = false := by unfold World.frozen?; rw [hV]; simp
  have vr2 : (w1.alloc (.cells (verC 0 0 0 ⟨#[]⟩ ⟨#[]⟩ t) 46)).cell? ⟨w1.heap.size, 2, none⟩ = some (.int .u64 0) := cell_of_row _ w1.heap.size 2 _ _ (0, 0) hV
  have z2 : (w1.alloc (.cells (verC 0 0 0 ⟨#[]⟩ ⟨#[]⟩ t) 46)).frozen? ⟨w1.heap.size, 2, none⟩ = false := by unfold World.frozen?; rw [hV]; simp
  have vr3 : (w1.alloc (.cells (verC 0 0 0 ⟨#[]⟩ ⟨#[]⟩ t) 46)).cell? ⟨w1.heap.size, 3, none⟩ = some (.string ⟨#[]⟩) := cell_of_row _ w1.heap.size 3 _ _ (0, 0) hV
  have z3 : (w1.alloc (.cells (verC 0 0 0 ⟨#[]⟩ ⟨#[]⟩ t) 46)).frozen? ⟨w1.heap.size, 3, none⟩ = false := by unfold World.frozen?; rw [hV]; simp
  have vr4 : (w1.alloc (.cells (verC 0 0 0 ⟨#[]⟩ ⟨#[]⟩ t) 46)).cell? ⟨w1.heap.size, 4, none⟩ = some (.string ⟨#[]⟩) := cell_of_row _ w1.heap.size 4 _ _ (0, 0) hV
  have z4 : (w1.alloc (.cells (verC 0 0 0 ⟨#[]⟩ ⟨#[]⟩ t) 46)).frozen? ⟨w1.heap.size, 4, none⟩ = false := by unfold World.frozen?; rw [hV]; simp
  have vr5 : (w1.alloc (.cells (verC 0 0 0 ⟨#[]⟩ ⟨#[]⟩ t) 46)).cell? ⟨w1.heap.size, 5, none⟩ = some (.string t) := cell_of_row _ w1.heap.size 5 _ _ (0, 0) hV
  have z5 : (w1.alloc (.cells (verC 0 0 0 ⟨#[]⟩ ⟨#[]⟩ t) 46)).frozen? ⟨w1.heap.size, 5, none⟩ = false := by unfold World.frozen?; rw [hV]; simp
  clear hV lt1
  show Calls _ _ _ (w1.alloc (.cells (verC 0 0 0 ⟨#[]⟩ ⟨#[]⟩ t) 46)) _
  generalize w1.alloc (.cells (verC 0 0 0 ⟨#[]⟩ ⟨#[]⟩ t) 46) = W2 at *
  generalize w1.heap.size = gv at *
  clear w1
  have nk : w.heap.size ≤ W2.heap.size := bw.size
  have nn : g1 ≠ gv := by intro e; rw [e] at ne1; simp at ne1
  refine (contains_any C0 43 (by unfold maxLen; omega) _).mono ?_
  rintro e w3 ⟨rfl, rfl⟩
  rw [show decide ((0 : Int) ≤ fstInt C0.data.toList (((43 : UInt8).toNat : Nat) : Int)) = true from decide_eq_true H43.out.2]
  go_wp2_with fail
  refine (splitN_any C0 43 (by omega) 1 (by omega) 2 rfl _).mono ?_
  rintro e w2 ⟨v2, rfl, hown2, hb2⟩
  rw [show (((43 : UInt8).toNat : Nat) : Int) = 43 from rfl, H43.out.1] at hown2
  obtain ⟨g2, cap2, rfl, hc2, hm2, hcell2⟩ := own_open hown2 (by simp)
  have y2 : w2.cell? ⟨g2, 0, none⟩ = some (.string C1) := hcell2 0 (by simp)
  have Y2 : w2.cell? ⟨g2, 1, none⟩ = some (.string M) := hcell2 1 (by simp)
  have lg2 := (hown2.lt g2 rfl).1
  have k2 : g1 < g2 := by have := cellLt9 x0; exact Nat.lt_of_lt_of_le this lg2
  have K2 : gv < g2 := by have := cellLt9 vr0; exact Nat.lt_of_lt_of_le this lg2
  have j2 : (g1 = g2) = False := eq_false (by omega)
  have J2 : (gv = g2) = False := eq_false (by omega)
  have i2 : (g2 = g1) = False := eq_false (by omega)
  have I2 : (g2 = gv) = False := eq_false (by omega)
  simp only [List.length_cons, List.length_nil, Nat.zero_add, Nat.reduceAdd] at hc2 ⊢
  unfold maxLen at hm2
  clear hown2 hcell2
  have lq1 := cellLt9 x0
  have lqv := cellLt9 vr0
  replace f2 := (hb2.frozen (p := ⟨g1, 2, none⟩) lq1).trans f2
  replace z0 := (hb2.frozen (p := ⟨gv, 0, none⟩) lqv).trans z0
  replace z1 := (hb2.frozen (p := ⟨gv, 1, none⟩) lqv).trans z1
  replace z2 := (hb2.frozen (p := ⟨gv, 2, none⟩) lqv).trans z2
  replace z3 := (hb2.frozen (p := ⟨gv, 3, none⟩) lqv).trans z3
  replace z4 := (hb2.frozen (p := ⟨gv, 4, none⟩) lqv).trans z4
  replace z5 := (hb2.frozen (p := ⟨gv, 5, none⟩) lqv).trans z5
  replace x0 := cellB9 hb2 x0
  replace x1 := cellB9 hb2 x1
  replace x2 := cellB9 hb2 x2
  replace vr0 := cellB9 hb2 vr0
  replace vr1 := cellB9 hb2 vr1
  replace vr2 := cellB9 hb2 vr2
  replace vr3 := cellB9 hb2 vr3
  replace vr4 := cellB9 hb2 vr4
  replace vr5 := cellB9 hb2 vr5
  replace bw := bw.trans (hb2.mono nk)
  replace nk := bw.size
  clear lq1 lqv hb2
  go_wp2_with fail
  have bE : Below w.heap.size w ((w2.setCell ⟨gv, 4, none⟩ (.string M)).setCell ⟨g1, 2, none⟩ (.string C1)) := Below.setCell (Below.setCell bw (by show w.heap.size ≤ gv; omega) _) (by show w.heap.size ≤ g1; omega) _
  have zE : ((w2.setCell ⟨gv, 4, none⟩ (.string M)).setCell ⟨g1, 2, none⟩ (.string C1)).heap.size = w2.heap.size := by simp
  have ef2 : ((w2.setCell ⟨gv, 4, none⟩ (.string M)).setCell ⟨g1, 2, none⟩ (.string C1)).frozen? ⟨g1, 2, none⟩ = false := by rw [World.frozen?_setCell, World.frozen?_setCell]; exact f2
  have ez0 : ((w2.setCell ⟨gv, 4, none⟩ (.string M)).setCell ⟨g1, 2, none⟩ (.string C1)).frozen? ⟨gv, 0, none⟩ = false := by rw [World.frozen?_setCell, World.frozen?_setCell]; exact z0
  have ez1 : ((w2.setCell ⟨gv, 4, none⟩ (.string M)).setCell ⟨g1, 2, none⟩ (.string C1)).frozen? ⟨gv, 1, none⟩ = false := by rw [World.frozen?_setCell, World.frozen?_setCell]; exact z1
  have ez2 : ((w2.setCell ⟨gv, 4, none⟩ (.string M)).setCell ⟨g1, 2, none⟩ (.string C1)).frozen? ⟨gv, 2, none⟩ = false := by rw [World.frozen?_setCell, World.frozen?_setCell]; exact z2
  have ez3 : ((w2.setCell ⟨gv, 4, none⟩ (.string M)).setCell ⟨g1, 2, none⟩ (.string C1)).frozen? ⟨gv, 3, none⟩ = false := by rw [World.frozen?_setCell, World.frozen?_setCell]; exact z3
  have ez4 : ((w2.setCell ⟨gv, 4, none⟩ (.string M)).setCell ⟨g1, 2, none⟩ (.string C1)).frozen? ⟨gv, 4, none⟩ = false := by rw [World.frozen?_setCell, World.frozen?_setCell]; exact z4
  have ez5 : ((w2.setCell ⟨gv, 4, none⟩ (.string M)).setCell ⟨g1, 2, none⟩ (.string C1)).frozen? ⟨gv, 5, none⟩ = false := by rw [World.frozen?_setCell, World.frozen?_setCell]; exact z5
  have lq1 : g1 < ((w2.setCell ⟨gv, 4, none⟩ (.string M)).setCell ⟨g1, 2, none⟩ (.string C1)).heap.size := by rw [zE]; exact cellLt9 x0
  have lqv : gv < ((w2.setCell ⟨gv, 4, none⟩ (.string M)).setCell ⟨g1, 2, none⟩ (.string C1)).heap.size := by rw [zE]; exact cellLt9 vr0
  refine (validateMetadata_any M (by omega) hM _).mono ?_
  rintro e V2 ⟨rfl, Hb2⟩
  replace x0 := cellB9 Hb2 (setO (by omega) (setO (by omega) x0))
  replace x1 := cellB9 Hb2 (setO (by omega) (setO (by omega) x1))
  replace x2 := cellB9 Hb2 (setS (setO (by omega) x2))
  replace vr0 := cellB9 Hb2 (setO (by omega) (setO (by omega) vr0))
  replace vr1 := cellB9 Hb2 (setO (by omega) (setO (by omega) vr1))
  replace vr2 := cellB9 Hb2 (setO (by omega) (setO (by omega) vr2))
  replace vr3 := cellB9 Hb2 (setO (by omega) (setO (by omega) vr3))
  replace vr4 := cellB9 Hb2 (setO (by omega) (setS vr4))
  replace vr5 := cellB9 Hb2 (setO (by omega) (setO (by omega) vr5))
  replace f2 := (Hb2.frozen (p := ⟨g1, 2, none⟩) lq1).trans ef2
  replace z0 := (Hb2.frozen (p := ⟨gv, 0, none⟩) lqv).trans ez0
  replace z1 := (Hb2.frozen (p := ⟨gv, 1, none⟩) lqv).trans ez1
  replace z2 := (Hb2.frozen (p := ⟨gv, 2, none⟩) lqv).trans ez2
  replace z3 := (Hb2.frozen (p := ⟨gv, 3, none⟩) lqv).trans ez3
  replace z4 := (Hb2.frozen (p := ⟨gv, 4, none⟩) lqv).trans ez4
  replace z5 := (Hb2.frozen (p := ⟨gv, 5, none⟩) lqv).trans ez5
  replace bw := bE.trans (Hb2.mono bE.size)
  replace nk := bw.size
  clear bE zE lq1 lqv Hb2 ef2 ez0 ez1 ez2 ez3 ez4 ez5
  go_wp2_with fail
  refine (contains_any C1 45 (by unfold maxLen; omega) _).mono ?_
  rintro e w3 ⟨rfl, rfl⟩
  rw [show decide ((0 : Int) ≤ fstInt C1.data.toList (((45 : UInt8).toNat : Nat) : Int)) = true from decide_eq_true H45.out.2]
  go_wp2_with fail
  refine (splitN_any C1 45 (by omega) 1 (by omega) 2 rfl _).mono ?_
  rintro e w4 ⟨v4, rfl, hown4, hb4⟩
  rw [show (((45 : UInt8).toNat : Nat) : Int) = 45 from rfl, H45.out.1] at hown4
  obtain ⟨g4, cap4, rfl, hc4, hm4, hcell4⟩ := own_open hown4 (by simp)
  have y4 : w4.cell? ⟨g4, 0, none⟩ = some (.string C) := hcell4 0 (by simp)
  have Y4 : w4.cell? ⟨g4, 1, none⟩ = some (.string P) := hcell4 1 (by simp)
  have lg4 := (hown4.lt g4 rfl).1
  have k4 : g1 < g4 := by have := cellLt9 x0; exact Nat.lt_of_lt_of_le this lg4
  have K4 : gv < g4 := by have := cellLt9 vr0; exact Nat.lt_of_lt_of_le this lg4
  have j4 : (g1 = g4) = False := eq_false (by omega)
  have J4 : (gv = g4) = False := eq_false (by omega)
  have i4 : (g4 = g1) = False := eq_false (by omega)
  have I4 : (g4 = gv) = False := eq_false (by omega)
  simp only [List.length_cons, List.length_nil, Nat.zero_add, Nat.reduceAdd] at hc4 ⊢
  unfold maxLen at hm4
  clear hown4 hcell4
  have lq1 := cellLt9 x0
  have lqv := cellLt9 vr0
  replace f2 := (hb4.frozen (p := ⟨g1, 2, none⟩) lq1).trans f2
  replace z0 := (hb4.frozen (p := ⟨gv, 0, none⟩) lqv).trans z0
  replace z1 := (hb4.frozen (p := ⟨gv, 1, none⟩) lqv).trans z1
  replace z2 := (hb4.frozen (p := ⟨gv, 2, none⟩) lqv).trans z2
  replace z3 := (hb4.frozen (p := ⟨gv, 3, none⟩) lqv).trans z3
  replace z4 := (hb4.frozen (p := ⟨gv, 4, none⟩) lqv).trans z4
  replace z5 := (hb4.frozen (p := ⟨gv, 5, none⟩) lqv).trans z5
  replace x0 := cellB9 hb4 x0
  replace x1 := cellB9 hb4 x1
  replace x2 := cellB9 hb4 x2
  replace vr0 := cellB9 hb4 vr0
  replace vr1 := cellB9 hb4 vr1
  replace vr2 := cellB9 hb4 vr2
  replace vr3 := cellB9 hb4 vr3
  replace vr4 := cellB9 hb4 vr4
  replace vr5 := cellB9 hb4 vr5
  replace bw := bw.trans (hb4.mono nk)
  replace nk := bw.size
  clear lq1 lqv hb4
  go_wp2_with fail
  have bE : Below w.heap.size w ((w4.setCell ⟨gv, 3, none⟩ (.string P)).setCell ⟨g1, 2, none⟩ (.string C)) := Below.setCell (Below.setCell bw (by show w.heap.size ≤ gv; omega) _) (by show w.heap.size ≤ g1; omega) _
  have zE : ((w4.setCell ⟨gv, 3, none⟩ (.string P)).setCell ⟨g1, 2, none⟩ (.string C)).heap.size = w4.heap.size := by simp
  have ef2 : ((w4.setCell ⟨gv, 3, none⟩ (.string P)).setCell ⟨g1, 2, none⟩ (.string C)).frozen? ⟨g1, 2, none⟩ = false := by rw [World.frozen?_setCell, World.frozen?_setCell]; exact f2
  have ez0 : ((w4.setCell ⟨gv, 3, none⟩ (.string P)).setCell ⟨g1, 2, none⟩ (.string C)).frozen? ⟨gv, 0, none⟩ = false := by rw [World.frozen?_setCell, World.frozen?_setCell]; exact z0
  have ez1 : ((w4.setCell ⟨gv, 3, none⟩ (.string P)).setCell ⟨g1, 2, none⟩ (.string C)).frozen? ⟨gv, 1, none⟩ = false := by rw [World.frozen?_setCell, World.frozen?_setCell]; exact z1
  have ez2 : ((w4.setCell ⟨gv, 3, none⟩ (.string P)).setCell ⟨g1, 2, none⟩ (.string C)).frozen? ⟨gv, 2, none⟩ = false := by rw [World.frozen?_setCell, World.frozen?_setCell]; exact z2
  have ez3 : ((w4.setCell ⟨gv, 3, none⟩ (.string P)).setCell ⟨g1, 2, none⟩ (.string C)).frozen? ⟨gv, 3, none⟩ = false := by rw [World.frozen?_setCell, World.frozen?_setCell]; exact z3
  have ez4 : ((w4.setCell ⟨gv, 3, none⟩ (.string P)).setCell ⟨g1, 2, none⟩ (.string C)).frozen? ⟨gv, 4, none⟩ = false := by rw [World.frozen?_setCell, World.frozen?_setCell]; exact z4
  have ez5 : ((w4.setCell ⟨gv, 3, none⟩ (.string P)).setCell ⟨g1, 2, none⟩ (.string C)).frozen? ⟨gv, 5, none⟩ = false := by rw [World.frozen?_setCell, World.frozen?_setCell]; exact z5
  have lq1 : g1 < ((w4.setCell ⟨gv, 3, none⟩ (.string P)).setCell ⟨g1, 2, none⟩ (.string C)).heap.size := by rw [zE]; exact cellLt9 x0
  have lqv : gv < ((w4.setCell ⟨gv, 3, none⟩ (.string P)).setCell ⟨g1, 2, none⟩ (.string C)).heap.size := by rw [zE]; exact cellLt9 vr0
  refine (validatePrerelease_any P (by omega) hP _).mono ?_
  rintro e V4 ⟨rfl, Hb4⟩
  replace x0 := cellB9 Hb4 (setO (by omega) (setO (by omega) x0))
  replace x1 := cellB9 Hb4 (setO (by omega) (setO (by omega) x1))
  replace x2 := cellB9 Hb4 (setS (setO (by omega) x2))
  replace vr0 := cellB9 Hb4 (setO (by omega) (setO (by omega) vr0))
  replace vr1 := cellB9 Hb4 (setO (by omega) (setO (by omega) vr1))
  replace vr2 := cellB9 Hb4 (setO (by omega) (setO (by omega) vr2))
  replace vr3 := cellB9 Hb4 (setO (by omega) (setS vr3))
  replace vr4 := cellB9 Hb4 (setO (by omega) (setO (by omega) vr4))
  replace vr5 := cellB9 Hb4 (setO (by omega) (setO (by omega) vr5))
  replace f2 := (Hb4.frozen (p := ⟨g1, 2, none⟩) lq1).trans ef2
  replace z0 := (Hb4.frozen (p := ⟨gv, 0, none⟩) lqv).trans ez0
  replace z1 := (Hb4.frozen (p := ⟨gv, 1, none⟩) lqv).trans ez1
  replace z2 := (Hb4.frozen (p := ⟨gv, 2, none⟩) lqv).trans ez2
  replace z3 := (Hb4.frozen (p := ⟨gv, 3, none⟩) lqv).trans ez3
  replace z4 := (Hb4.frozen (p := ⟨gv, 4, none⟩) lqv).trans ez4
  replace z5 := (Hb4.frozen (p := ⟨gv, 5, none⟩) lqv).trans ez5
  replace bw := bE.trans (Hb4.mono bE.size)
  replace nk := bw.size
  clear bE zE lq1 lqv Hb4 ef2 ez0 ez1 ez2 ez3 ez4 ez5
  go_wp2_with fail
  go_loopw [86] (fun i wr => ∃ k : Nat, k ≤ 3 ∧ i = .int .i64 k ∧ Below V4.heap.size V4 wr) (fun i _ => 3 - (intOf i).toNat)
  case atStart => exact ⟨0, by omega, rfl, Below.refl _ _⟩
  case round =>
    obtain ⟨k, hk, rfl, hbr⟩ := hrel
    by_cases hlt : k < 3
    · obtain ⟨X, hX, hcx⟩ : ∃ X, Hid (NumOk X) ∧ V4.cell? ⟨g1, k, none⟩ = some (.string X) := by
        have hk3 : k = 0 ∨ k = 1 ∨ k = 2 := by omega
        rcases hk3 with rfl | rfl | rfl
        · exact ⟨A, nA, x0⟩
        · exact ⟨B, nB, x1⟩
        · exact ⟨C, nC, x2⟩
      have hca : wr.cell? ⟨g1, k, none⟩ = some (.string X) := cellB9 hbr hcx
      obtain ⟨p1, p2, p3, -, p5⟩ := hX.out
      have hXp := Lib.hid p1
      have hXn := Lib.hid p2
      clear p1 p2 hcx
      have hsz : X.size ≤ 1 ∨ (1 < X.size ∧ ∀ h : 0 < X.size, (((X[0]'h).toNat : Int) == 48) = false) := by
        by_cases h1 : 1 < X.size
        · exact .inr ⟨h1, p3 h1⟩
        · exact .inl (by omega)
      clear p3
      clear x0 x1 x2 vr0 z0 vr1 z1 vr2 z2 vr3 z3 vr4 z4 vr5 z5 f2
      rcases hsz with h1 | ⟨h1, h2⟩
      · have l1 : ((1 : Int) < (X.size : Int)) = False := eq_false (by omega)
        have l2 : (1 < X.size) = False := eq_false (by omega)
        · skip
          go_wp2_with fail
          refine (conly_any X numT hXp num_plain _).mono ?_
          rintro e w9 ⟨rfl, hb9⟩
          rw [hXn.out]
          have b9 : Below V4.heap.size V4 w9 := hbr.trans (hb9.mono hbr.size)
          go_wp2_with fail
          go_roundw
          case rel => exact ⟨k + 1, by omega, by go_num, b9⟩
          case measure => simp [intOf]; omega
      · have l1 : ((1 : Int) < (X.size : Int)) = True := eq_true (by omega)
        have l2 := h2 (by omega)
        have l3 : 0 < X.size := by omega
        clear h2
        · skip
          go_wp2_with fail
          refine (conly_any X numT hXp num_plain _).mono ?_
          rintro e w9 ⟨rfl, hb9⟩
          rw [hXn.out]
          have b9 : Below V4.heap.size V4 w9 := hbr.trans (hb9.mono hbr.size)
          go_wp2_with fail
          go_roundw
          case rel => exact ⟨k + 1, by omega, by go_num, b9⟩
          case measure => simp [intOf]; omega
    · have ek : k = 3 := by omega
      subst ek
      have lq1 := cellLt9 x0
      have lqv := cellLt9 vr0
      replace f2 := (hbr.frozen (p := ⟨g1, 2, none⟩) lq1).trans f2
      replace z0 := (hbr.frozen (p := ⟨gv, 0, none⟩) lqv).trans z0
      replace z1 := (hbr.frozen (p := ⟨gv, 1, none⟩) lqv).trans z1
      replace z2 := (hbr.frozen (p := ⟨gv, 2, none⟩) lqv).trans z2
      replace z3 := (hbr.frozen (p := ⟨gv, 3, none⟩) lqv).trans z3
      replace z4 := (hbr.frozen (p := ⟨gv, 4, none⟩) lqv).trans z4
      replace z5 := (hbr.frozen (p := ⟨gv, 5, none⟩) lqv).trans z5
      replace x0 := cellB9 hbr x0
      replace x1 := cellB9 hbr x1
      replace x2 := cellB9 hbr x2
      replace vr0 := cellB9 hbr vr0
      replace vr1 := cellB9 hbr vr1
      replace vr2 := cellB9 hbr vr2
      replace vr3 := cellB9 hbr vr3
      replace vr4 := cellB9 hbr vr4
      replace vr5 := cellB9 hbr vr5
      replace bw := bw.trans (hbr.mono bw.size)
      clear lq1 lqv hbr hlt hk
      have nk : w.heap.size ≤ wr.heap.size := bw.size
      go_wp2_with fail
      refine (parse_ok A (by have := nA.out.2.2.2.2; omega) nA.out.2.2.2.1 _).mono ?_
      rintro e q0 ⟨rfl, hq0⟩
      have lq1 := cellLt9 x0
      have lqv := cellLt9 vr0
      replace f2 := (hq0.frozen (p := ⟨g1, 2, none⟩) lq1).trans f2
      replace z0 := (hq0.frozen (p := ⟨gv, 0, none⟩) lqv).trans z0
      replace z1 := (hq0.frozen (p := ⟨gv, 1, none⟩) lqv).trans z1
      replace z2 := (hq0.frozen (p := ⟨gv, 2, none⟩) lqv).trans z2
      replace z3 := (hq0.frozen (p := ⟨gv, 3, none⟩) lqv).trans z3
      replace z4 := (hq0.frozen (p := ⟨gv, 4, none⟩) lqv).trans z4
      replace z5 := (hq0.frozen (p := ⟨gv, 5, none⟩) lqv).trans z5
      replace x0 := cellB9 hq0 x0
      replace x1 := cellB9 hq0 x1
      replace x2 := cellB9 hq0 x2
      replace vr0 := cellB9 hq0 vr0
      replace vr1 := cellB9 hq0 vr1
      replace vr2 := cellB9 hq0 vr2
      replace vr3 := cellB9 hq0 vr3
      replace vr4 := cellB9 hq0 vr4
      replace vr5 := cellB9 hq0 vr5
      replace bw := bw.trans (hq0.mono bw.size)
      clear lq1 lqv hq0
      replace nk : w.heap.size ≤ q0.heap.size := bw.size
      go_wp2_with fail
      replace x0 : (q0.setCell ⟨gv, 0, none⟩ (.int .u64 (numN A : Nat))).cell? ⟨g1, 0, none⟩ = _ := setO (by omega) x0
      replace x1 : (q0.setCell ⟨gv, 0, none⟩ (.int .u64 (numN A : Nat))).cell? ⟨g1, 1, none⟩ = _ := setO (by omega) x1
      replace x2 : (q0.setCell ⟨gv, 0, none⟩ (.int .u64 (numN A : Nat))).cell? ⟨g1, 2, none⟩ = _ := setO (by omega) x2
      replace vr0 : (q0.setCell ⟨gv, 0, none⟩ (.int .u64 (numN A : Nat))).cell? ⟨gv, 0, none⟩ = _ := setS vr0
      replace vr1 : (q0.setCell ⟨gv, 0, none⟩ (.int .u64 (numN A : Nat))).cell? ⟨gv, 1, none⟩ = _ := setO (by omega) vr1
      replace vr2 : (q0.setCell ⟨gv, 0, none⟩ (.int .u64 (numN A : Nat))).cell? ⟨gv, 2, none⟩ = _ := setO (by omega) vr2
      replace vr3 : (q0.setCell ⟨gv, 0, none⟩ (.int .u64 (numN A : Nat))).cell? ⟨gv, 3, none⟩ = _ := setO (by omega) vr3
      replace vr4 : (q0.setCell ⟨gv, 0, none⟩ (.int .u64 (numN A : Nat))).cell? ⟨gv, 4, none⟩ = _ := setO (by omega) vr4
      replace vr5 : (q0.setCell ⟨gv, 0, none⟩ (.int .u64 (numN A : Nat))).cell? ⟨gv, 5, none⟩ = _ := setO (by omega) vr5
      replace f2 : (q0.setCell ⟨gv, 0, none⟩ (.int .u64 (numN A : Nat))).frozen? ⟨g1, 2, none⟩ = false := by rw [World.frozen?_setCell]; exact f2
      replace z0 : (q0.setCell ⟨gv, 0, none⟩ (.int .u64 (numN A : Nat))).frozen? ⟨gv, 0, none⟩ = false := by rw [World.frozen?_setCell]; exact z0
      replace z1 : (q0.setCell ⟨gv, 0, none⟩ (.int .u64 (numN A : Nat))).frozen? ⟨gv, 1, none⟩ = false := by rw [World.frozen?_setCell]; exact z1
      replace z2 : (q0.setCell ⟨gv, 0, none⟩ (.int .u64 (numN A : Nat))).frozen? ⟨gv, 2, none⟩ = false := by rw [World.frozen?_setCell]; exact z2
      replace z3 : (q0.setCell ⟨gv, 0, none⟩ (.int .u64 (numN A : Nat))).frozen? ⟨gv, 3, none⟩ = false := by rw [World.frozen?_setCell]; exact z3
      replace z4 : (q0.setCell ⟨gv, 0, none⟩ (.int .u64 (numN A : Nat))).frozen? ⟨gv, 4, none⟩ = false := by rw [World.frozen?_setCell]; exact z4
      replace z5 : (q0.setCell ⟨gv, 0, none⟩ (.int .u64 (numN A : Nat))).frozen? ⟨gv, 5, none⟩ = false := by rw [World.frozen?_setCell]; exact z5
      replace bw : Below w.heap.size w (q0.setCell ⟨gv, 0, none⟩ (.int .u64 (numN A : Nat))) := Below.setCell bw (by show w.heap.size ≤ gv; omega) _
      show Calls _ _ _ (q0.setCell ⟨gv, 0, none⟩ (.int .u64 (numN A : Nat))) _
      generalize (q0.setCell ⟨gv, 0, none⟩ (.int .u64 (numN A : Nat))) = Q0 at *
      replace nk : w.heap.size ≤ Q0.heap.size := bw.size
      clear q0
      refine (parse_ok B (by have := nB.out.2.2.2.2; omega) nB.out.2.2.2.1 _).mono ?_
      rintro e q1 ⟨rfl, hq1⟩
      have lq1 := cellLt9 x0
      have lqv := cellLt9 vr0
      replace f2 := (hq1.frozen (p := ⟨g1, 2, none⟩) lq1).trans f2
      replace z0 := (hq1.frozen (p := ⟨gv, 0, none⟩) lqv).trans z0
      replace z1 := (hq1.frozen (p := ⟨gv, 1, none⟩) lqv).trans z1
      replace z2 := (hq1.frozen (p := ⟨gv, 2, none⟩) lqv).trans z2
      replace z3 := (hq1.frozen (p := ⟨gv, 3, none⟩) lqv).trans z3
      replace z4 := (hq1.frozen (p := ⟨gv, 4, none⟩) lqv).trans z4
      replace z5 := (hq1.frozen (p := ⟨gv, 5, none⟩) lqv).trans z5
      replace x0 := cellB9 hq1 x0
      replace x1 := cellB9 hq1 x1
      replace x2 := cellB9 hq1 x2
      replace vr0 := cellB9 hq1 vr0
      replace vr1 := cellB9 hq1 vr1
      replace vr2 := cellB9 hq1 vr2
      replace vr3 := cellB9 hq1 vr3
      replace vr4 := cellB9 hq1 vr4
      replace vr5 := cellB9 hq1 vr5
      replace bw := bw.trans (hq1.mono bw.size)
      clear lq1 lqv hq1
      replace nk : w.heap.size ≤ q1.heap.size := bw.size
      go_wp2_with fail
      replace x0 : (q1.setCell ⟨gv, 1, none⟩ (.int .u64 (numN B : Nat))).cell? ⟨g1, 0, none⟩ = _ := setO (by omega) x0
      replace x1 : (q1.setCell ⟨gv, 1, none⟩ (.int .u64 (numN B : Nat))).cell? ⟨g1, 1, none⟩ = _ := setO (by omega) x1
      replace x2 : (q1.setCell ⟨gv, 1, none⟩ (.int .u64 (numN B : Nat))).cell? ⟨g1, 2, none⟩ = _ := setO (by omega) x2
      replace vr0 : (q1.setCell ⟨gv, 1, none⟩ (.int .u64 (numN B : Nat))).cell? ⟨gv, 0, none⟩ = _ := setO (by omega) vr0
      replace vr1 : (q1.setCell ⟨gv, 1, none⟩ (.int .u64 (numN B : Nat))).cell? ⟨gv, 1, none⟩ = _ := setS vr1
      replace vr2 : (q1.setCell ⟨gv, 1, none⟩ (.int .u64 (numN B : Nat))).cell? ⟨gv, 2, none⟩ = _ := setO (by omega) vr2
      replace vr3 : (q1.setCell ⟨gv, 1, none⟩ (.int .u64 (numN B : Nat))).cell? ⟨gv, 3, none⟩ = _ := setO (by omega) vr3
      replace vr4 : (q1.setCell ⟨gv, 1, none⟩ (.int .u64 (numN B : Nat))).cell? ⟨gv, 4, none⟩ = _ := setO (by omega) vr4
      replace vr5 : (q1.setCell ⟨gv, 1, none⟩ (.int .u64 (numN B : Nat))).cell? ⟨gv, 5, none⟩ = _ := setO (by omega) vr5
      replace f2 : (q1.setCell ⟨gv, 1, none⟩ (.int .u64 (numN B : Nat))).frozen? ⟨g1, 2, none⟩ = false := by rw [World.frozen?_setCell]; exact f2
      replace z0 : (q1.setCell ⟨gv, 1, none⟩ (.int .u64 (numN B : Nat))).frozen? ⟨gv, 0, none⟩ = false := by rw [World.frozen?_setCell]; exact z0
      replace z1 : (q1.setCell ⟨gv, 1, none⟩ (.int .u64 (numN B : Nat))).frozen? ⟨gv, 1, none⟩ = false := by rw [World.frozen?_setCell]; exact z1
      replace z2 : (q1.setCell ⟨gv, 1, none⟩ (.int .u64 (numN B : Nat))).frozen? ⟨gv, 2, none⟩ = false := by rw [World.frozen?_setCell]; exact z2
      replace z3 : (q1.setCell ⟨gv, 1, none⟩ (.int .u64 (numN B : Nat))).frozen? ⟨gv, 3, none⟩ = false := by rw [World.frozen?_setCell]; exact z3
      replace z4 : (q1.setCell ⟨gv, 1, none⟩ (.int .u64 (numN B : Nat))).frozen? ⟨gv, 4, none⟩ = false := by rw [World.frozen?_setCell]; exact z4
      replace z5 : (q1.setCell ⟨gv, 1, none⟩ (.int .u64 (numN B : Nat))).frozen? ⟨gv, 5, none⟩ = false := by rw [World.frozen?_setCell]; exact z5
      replace bw : Below w.heap.size w (q1.setCell ⟨gv, 1, none⟩ (.int .u64 (numN B : Nat))) := Below.setCell bw (by show w.heap.size ≤ gv; omega) _
      show Calls _ _ _ (q1.setCell ⟨gv, 1, none⟩ (.int .u64 (numN B : Nat))) _
      generalize (q1.setCell ⟨gv, 1, none⟩ (.int .u64 (numN B : Nat))) = Q1 at *
      replace nk : w.heap.size ≤ Q1.heap.size := bw.size
      clear q1
      refine (parse_ok C (by have := nC.out.2.2.2.2; omega) nC.out.2.2.2.1 _).mono ?_
      rintro e q2 ⟨rfl, hq2⟩
      have lq1 := cellLt9 x0
      have lqv := cellLt9 vr0
      replace f2 := (hq2.frozen (p := ⟨g1, 2, none⟩) lq1).trans f2
      replace z0 := (hq2.frozen (p := ⟨gv, 0, none⟩) lqv).trans z0
      replace z1 := (hq2.frozen (p := ⟨gv, 1, none⟩) lqv).trans z1
      replace z2 := (hq2.frozen (p := ⟨gv, 2, none⟩) lqv).trans z2
      replace z3 := (hq2.frozen (p := ⟨gv, 3, none⟩) lqv).trans z3
      replace z4 := (hq2.frozen (p := ⟨gv, 4, none⟩) lqv).trans z4
      replace z5 := (hq2.frozen (p := ⟨gv, 5, none⟩) lqv).trans z5
      replace x0 := cellB9 hq2 x0
      replace x1 := cellB9 hq2 x1
      replace x2 := cellB9 hq2 x2
      replace vr0 := cellB9 hq2 vr0
      replace vr1 := cellB9 hq2 vr1
      replace vr2 := cellB9 hq2 vr2
      replace vr3 := cellB9 hq2 vr3
      replace vr4 := cellB9 hq2 vr4
      replace vr5 := cellB9 hq2 vr5
      replace bw := bw.trans (hq2.mono bw.size)
      clear lq1 lqv hq2
      replace nk : w.heap.size ≤ q2.heap.size := bw.size
      go_wp2_with fail
      refine bodyPost_ret (v := .tuple #[.pointer (some ⟨gv, 0, none⟩), .nilIface]) (by simp [results, Tryd.results13, go_sem]) rfl ⟨gv, rfl, ⟨setO (by omega) vr0, setO (by omega) vr1, setS vr2, setO (by omega) vr3, setO (by omega) vr4, setO (by omega) vr5⟩, Below.setCell bw (by show w.heap.size ≤ gv; omega) _⟩

set_option maxRecDepth 100000 in
set_option maxHeartbeats 8000000 in
theorem strict_mn (t A B C P M C0 C1 : ByteArray) (h0 : 0 < t.size) (h1 : t.size ≤ 256) (zA : A.size ≤ 256) (s0 : C0.size ≤ 256) (s1 : C1.size ≤ 256) (zP : P.size ≤ 256) (zM : M.size ≤ 256) (HT : Hid (cutN 46 2 t = [A, B, C0]))
    (H43 : Hid (cutN 43 1 C0 = [C1, M] ∧ 0 ≤ fstInt C0.data.toList 43)) (H45 : Hid (C = C1 ∧ fstInt C1.data.toList 45 < 0))
    (nA : Hid (NumOk A)) (nB : Hid (NumOk B)) (nC : Hid (NumOk C)) (hM : Hid ((cutB 46 M).all vidB = true)) (hP : Hid ((cutB 46 P).all preOk = true)) (w : World) :
    Calls Tryd.prog 13 #[.string t] w (StrictPost (numN A : Nat) (numN B : Nat) (numN C : Nat) ⟨#[]⟩ M t w) := by
  have i1 : ((t.size : Int) == 0) = false := by rw [beq_eq_false_iff_ne]; omega
  have i2 : (256 < (t.size : Int)) = False := eq_false (by omega)
  go_enter Tryd.func13, Tryd.ntmps13
  go_wp2_with fail
  refine (splitN_any t 46 (by omega) 2 (by omega) 3 rfl _).mono ?_
  rintro e w1 ⟨v1, rfl, hown1, hb1⟩
  rw [show ((46 : UInt8).toNat : Int) = 46 from rfl, HT.out] at hown1
  obtain ⟨g1, cap1, rfl, hc1, hm1, hcell1⟩ := own_open hown1 (by simp)
  have x0 : w1.cell? ⟨g1, 0, none⟩ = some (.string A) := hcell1 0 (by simp)
  have x1 : w1.cell? ⟨g1, 1, none⟩ = some (.string B) := hcell1 1 (by simp)
  have x2 : w1.cell? ⟨g1, 2, none⟩ = some (.string C0) := hcell1 2 (by simp)
  have f2 : w1.frozen? ⟨g1, 2, none⟩ = false := hown1.frozenAt 2
  have lg1 := (hown1.lt g1 rfl).1
  simp only [List.length_cons, List.length_nil, Nat.zero_add, Nat.reduceAdd] at hc1 ⊢
  unfold maxLen at hm1
  have bk : Below w.heap.size w w1 := hb1
  have nk : w.heap.size ≤ w1.heap.size := bk.size
  have lt1 := (hown1.lt g1 rfl).2
  have ne1 : (g1 = w1.heap.size) = False := eq_false (by omega)
  have ne2 : (w1.heap.size = g1) = False := eq_false (by omega)
  clear hown1 hcell1 hb1
  go_wp2_with fail
  have bkV : Below w1.heap.size w1 (w1.alloc (.cells (verC 0 0 0 ⟨#[]⟩ ⟨#[]⟩ t) 46)) := (Below.refl _ _).alloc (Nat.le_refl _) _
  have hV := heap_alloc_new w1 (.cells (verC 0 0 0 ⟨#[]⟩ ⟨#[]⟩ t) 46)
  replace x0 := keepV (o := (.cells (verC 0 0 0 ⟨#[]⟩ ⟨#[]⟩ t) 46)) x0
  replace x1 := keepV (o := (.cells (verC 0 0 0 ⟨#[]⟩ ⟨#[]⟩ t) 46)) x1
  replace x2 := keepV (o := (.cells (verC 0 0 0 ⟨#[]⟩ ⟨#[]⟩ t) 46)) x2
  replace f2 := (bkV.frozen (p := ⟨g1, 2, none⟩) lt1).trans f2
  have lgv := nk
  have bw : Below w.heap.size w (w1.alloc (.cells (verC 0 0 0 ⟨#[]⟩ ⟨#[]⟩ t) 46)) := bk.trans (bkV.mono nk)
  clear bkV bk nk
  have vr0 : (w1.alloc (.cells (verC 0 0 0 ⟨#[]⟩ ⟨#[]⟩ t) 46)).cell? ⟨w1.heap.size, 0, none⟩ = some (.int .u64 0) := cell_of_row _ w1.heap.size 0 _ _ (0, 0) hV
  have z0 : (w1.alloc (.cells (verC 0 0 0 ⟨#[]⟩ ⟨#[]⟩ t) 46)).frozen? ⟨w1.heap.size, 0, none⟩ = false := by unfold World.frozen?; rw [hV]; simp
  have vr1 : (w1.alloc (.cells (verC 0 0 0 ⟨#[]⟩ ⟨#[]⟩ t) 46)).cell? ⟨w1.heap.size, 1, none⟩ = some (.int .u64 0) := cell_of_row _ w1.heap.size 1 _ _ (0, 0) hV
  have z1 : (w1.alloc (.cells (verC 0 0 0 ⟨#[]⟩ ⟨#[]⟩ t) 46)).frozen? ⟨w1.heap.size, 1, none⟩ = false := by unfold World.frozen?; rw [hV]; simp
  have vr2 : (w1.alloc (.cells (verC 0 0 0 ⟨#[]⟩ ⟨#[]⟩ t) 46)).cell? ⟨w1.heap.size, 2, none⟩ = some (.int .u64 0) := cell_of_row _ w1.heap.size 2 _ _ (0, 0) hV
  have z2 : (w1.alloc (.cells (verC 0 0 0 ⟨#[]⟩ ⟨#[]⟩ t) 46)).frozen? ⟨w1.heap.size, 2, none⟩ = false := by unfold World.frozen?; rw [hV]; simp
  have vr3 : (w1.alloc (.cells (verC 0 0 0 ⟨#[]⟩ ⟨#[]⟩ t) 46)).cell? ⟨w1.heap.size, 3, none⟩ = some (.string ⟨#[]⟩) := cell_of_row _ w1.heap.size 3 _ _ (0, 0) hV
  have z3 : (w1.alloc (.cells (verC 0 0 0 ⟨#[]⟩ ⟨#[]⟩ t) 46)).frozen? ⟨w1.heap.size, 3, none⟩ = false := by unfold World.frozen?; rw [hV]; simp
  have vr4 : (w1.alloc (.cells (verC 0 0 0 ⟨#[]⟩ ⟨#[]⟩ t) 46)).cell? ⟨w1.heap.size, 4, none⟩ = some (.string ⟨#[]⟩) := cell_of_row _ w1.heap.size 4 _ _ (0, 0) hV
  have z4 : (w1.alloc (.cells (verC 0 0 0 ⟨#[]⟩ ⟨#[]⟩ t) 46)).frozen? ⟨w1.heap.size, 4, none⟩ = false := by unfold World.frozen?; rw [hV]; simp
  have vr5 : (w1.alloc (.cells (verC 0 0 0 ⟨#[]⟩ ⟨#[]⟩ t) 46)).cell? ⟨w1.heap.size, 5, none⟩ = some (.string t) := cell_of_row _ w1.heap.size 5 _ _ (0, 0) hV
  have z5 : (w1.alloc (.cells (verC 0 0 0 ⟨#[]⟩ ⟨#[]⟩ t) 46)).frozen? ⟨w1.heap.size, 5, none⟩ = false := by unfold World.frozen?; rw [hV]; simp
  clear hV lt1
  show Calls _ _ _ (w1.alloc (.cells (verC 0 0 0 ⟨#[]⟩ ⟨#[]⟩ t) 46)) _
  generalize w1.alloc (.cells (verC 0 0 0 ⟨#[]⟩ ⟨#[]⟩ t) 46) = W2 at *
  generalize w1.heap.size = gv at *
  clear w1
  have nk : w.heap.size ≤ W2.heap.size := bw.size
  have nn : g1 ≠ gv := by intro e; rw [e] at ne1; simp at ne1
  refine (contains_any C0 43 (by unfold maxLen; omega) _).mono ?_
  rintro e w3 ⟨rfl, rfl⟩
  rw [show decide ((0 : Int) ≤ fstInt C0.data.toList (((43 : UInt8).toNat : Nat) : Int)) = true from decide_eq_true H43.out.2]
  go_wp2_with fail
  refine (splitN_any C0 43 (by omega) 1 (by omega) 2 rfl _).mono ?_
  rintro e w2 ⟨v2, rfl, hown2, hb2⟩
  rw [show (((43 : UInt8).toNat : Nat) : Int) = 43 from rfl, H43.out.1] at hown2
  obtain ⟨g2, cap2, rfl, hc2, hm2, hcell2⟩ := own_open hown2 (by simp)
  have y2 : w2.cell? ⟨g2, 0, none⟩ = some (.string C1) := hcell2 0 (by simp)
  have Y2 : w2.cell? ⟨g2, 1, none⟩ = some (.string M) := hcell2 1 (by simp)
  have lg2 := (hown2.lt g2 rfl).1
  have k2 : g1 < g2 := by have := cellLt9 x0; exact Nat.lt_of_lt_of_le this lg2
  have K2 : gv < g2 := by have := cellLt9 vr0; exact Nat.lt_of_lt_of_le this lg2
  have j2 : (g1 = g2) = False := eq_false (by omega)
  have J2 : (gv = g2) = False := eq_false (by omega)
  have i2 : (g2 = g1) = False := eq_false (by omega)
  have I2 : (g2 = gv) = False := eq_false (by omega)
  simp only [List.length_cons, List.length_nil, Nat.zero_add, Nat.reduceAdd] at hc2 ⊢
  unfold maxLen at hm2
  clear hown2 hcell2
  have lq1 := cellLt9 x0
  have lqv := cellLt9 vr0
  replace f2 := (hb2.frozen (p := ⟨g1, 2, none⟩) lq1).trans f2
  replace z0 := (hb2.frozen (p := ⟨gv, 0, none⟩) lqv).trans z0
  replace z1 := (hb2.frozen (p := ⟨gv, 1, none⟩) lqv).trans z1
  replace z2 := (hb2.frozen (p := ⟨gv, 2, none⟩) lqv).trans z2
  replace z3 := (hb2.frozen (p := ⟨gv, 3, none⟩) lqv).trans z3
  replace z4 := (hb2.frozen (p := ⟨gv, 4, none⟩) lqv).trans z4
  replace z5 := (hb2.frozen (p := ⟨gv, 5, none⟩) lqv).trans z5
  replace x0 := cellB9 hb2 x0
  replace x1 := cellB9 hb2 x1
  replace x2 := cellB9 hb2 x2
  replace vr0 := cellB9 hb2 vr0
  replace vr1 := cellB9 hb2 vr1
  replace vr2 := cellB9 hb2 vr2
  replace vr3 := cellB9 hb2 vr3
  replace vr4 := cellB9 hb2 vr4
  replace vr5 := cellB9 hb2 vr5
  replace bw := bw.trans (hb2.mono nk)
  replace nk := bw.size
  clear lq1 lqv hb2
  go_wp2_with fail
  have bE : Below w.heap.size w ((w2.setCell ⟨gv, 4, none⟩ (.string M)).setCell ⟨g1, 2, none⟩ (.string C1)) := Below.setCell (Below.setCell bw (by show w.heap.size ≤ gv; omega) _) (by show w.heap.size ≤ g1; omega) _
  have zE : ((w2.setCell ⟨gv, 4, none⟩ (.string M)).setCell ⟨g1, 2, none⟩ (.string C1)).heap.size = w2.heap.size := by simp
  have ef2 : ((w2.setCell ⟨gv, 4, none⟩ (.string M)).setCell ⟨g1, 2, none⟩ (.string C1)).frozen? ⟨g1, 2, none⟩ = false := by rw [World.frozen?_setCell, World.frozen?_setCell]; exact f2
  have ez0 : ((w2.setCell ⟨gv, 4, none⟩ (.string M)).setCell ⟨g1, 2, none⟩ (.string C1)).frozen? ⟨gv, 0, none⟩ = false := by rw [World.frozen?_setCell, World.frozen?_setCell]; exact z0
  have ez1 : ((w2.setCell ⟨gv, 4, none⟩ (.string M)).setCell ⟨g1, 2, none⟩ (.string C1)).frozen? ⟨gv, 1, none⟩ = false := by rw [World.frozen?_setCell, World.frozen?_setCell]; exact z1
  have ez2 : ((w2.setCell ⟨gv, 4, none⟩ (.string M)).setCell ⟨g1, 2, none⟩ (.string C1)).frozen? ⟨gv, 2, none⟩ = false := by rw [World.frozen?_setCell, World.frozen?_setCell]; exact z2
  have ez3 : ((w2.setCell ⟨gv, 4, none⟩ (.string M)).setCell ⟨g1, 2, none⟩ (.string C1)).frozen? ⟨gv, 3, none⟩ = false := by rw [World.frozen?_setCell, World.frozen?_setCell]; exact z3
  have ez4 : ((w2.setCell ⟨gv, 4, none⟩ (.string M)).setCell ⟨g1, 2, none⟩ (.string C1)).frozen? ⟨gv, 4, none⟩ = false := by rw [World.frozen?_setCell, World.frozen?_setCell]; exact z4
  have ez5 : ((w2.setCell ⟨gv, 4, none⟩ (.string M)).setCell ⟨g1, 2, none⟩ (.string C1)).frozen? ⟨gv, 5, none⟩ = false := by rw [World.frozen?_setCell, World.frozen?_setCell]; exact z5
  have lq1 : g1 < ((w2.setCell ⟨gv, 4, none⟩ (.string M)).setCell ⟨g1, 2, none⟩ (.string C1)).heap.size := by rw [zE]; exact cellLt9 x0
  have lqv : gv < ((w2.setCell ⟨gv, 4, none⟩ (.string M)).setCell ⟨g1, 2, none⟩ (.string C1)).heap.size := by rw [zE]; exact cellLt9 vr0
  refine (validateMetadata_any M (by omega) hM _).mono ?_
  rintro e V2 ⟨rfl, Hb2⟩
  replace x0 := cellB9 Hb2 (setO (by omega) (setO (by omega) x0))
  replace x1 := cellB9 Hb2 (setO (by omega) (setO (by omega) x1))
  replace x2 := cellB9 Hb2 (setS (setO (by omega) x2))
  replace vr0 := cellB9 Hb2 (setO (by omega) (setO (by omega) vr0))
  replace vr1 := cellB9 Hb2 (setO (by omega) (setO (by omega) vr1))
  replace vr2 := cellB9 Hb2 (setO (by omega) (setO (by omega) vr2))
  replace vr3 := cellB9 Hb2 (setO (by omega) (setO (by omega) vr3))
  replace vr4 := cellB9 Hb2 (setO (by omega) (setS vr4))
  replace vr5 := cellB9 Hb2 (setO (by omega) (setO (by omega) vr5))
  replace f2 := (Hb2.frozen (p := ⟨g1, 2, none⟩) lq1).trans ef2
  replace z0 := (Hb2.frozen (p := ⟨gv, 0, none⟩) lqv).trans ez0
  replace z1 := (Hb2.frozen (p := ⟨gv, 1, none⟩) lqv).trans ez1
  replace z2 := (Hb2.frozen (p := ⟨gv, 2, none⟩) lqv).trans ez2
  replace z3 := (Hb2.frozen (p := ⟨gv, 3, none⟩) lqv).trans ez3
  replace z4 := (Hb2.frozen (p := ⟨gv, 4, none⟩) lqv).trans ez4
  replace z5 := (Hb2.frozen (p := ⟨gv, 5, none⟩) lqv).trans ez5
  replace bw := bE.trans (Hb2.mono bE.size)
  replace nk := bw.size
  clear bE zE lq1 lqv Hb2 ef2 ez0 ez1 ez2 ez3 ez4 ez5
  go_wp2_with fail
  refine (contains_any C1 45 (by unfold maxLen; omega) _).mono ?_
  rintro e w3 ⟨rfl, rfl⟩
  rw [show decide ((0 : Int) ≤ fstInt C1.data.toList (((45 : UInt8).toNat : Nat) : Int)) = false from decide_eq_false (by have h := H45.out.2; have e : (((45 : UInt8).toNat : Nat) : Int) = 45 := rfl; rw [e]; omega)]
  go_wp2_with fail
  obtain rfl : C = C1 := H45.out.1
  go_loopw [86] (fun i wr => ∃ k : Nat, k ≤ 3 ∧ i = .int .i64 k ∧ Below V2.heap.size V2 wr) (fun i _ => 3 - (intOf i).toNat)
  case atStart => exact ⟨0, by omega, rfl, Below.refl _ _⟩
  case round =>
    obtain ⟨k, hk, rfl, hbr⟩ := hrel
    by_cases hlt : k < 3
    · obtain ⟨X, hX, hcx⟩ : ∃ X, Hid (NumOk X) ∧ V2.cell? ⟨g1, k, none⟩ = some (.string X) := by
        have hk3 : k = 0 ∨ k = 1 ∨ k = 2 := by omega
        rcases hk3 with rfl | rfl | rfl
        · exact ⟨A, nA, x0⟩
        · exact ⟨B, nB, x1⟩
        · exact ⟨C, nC, x2⟩
      have hca : wr.cell? ⟨g1, k, none⟩ = some (.string X) := cellB9 hbr hcx
      obtain ⟨p1, p2, p3, -, p5⟩ := hX.out
      have hXp := Lib.hid p1
      have hXn := Lib.hid p2
      clear p1 p2 hcx
      have hsz : X.size ≤ 1 ∨ (1 < X.size ∧ ∀ h : 0 < X.size, (((X[0]'h).toNat : Int) == 48) = false) := by
        by_cases h1 : 1 < X.size
        · exact .inr ⟨h1, p3 h1⟩
        · exact .inl (by omega)
      clear p3
      clear x0 x1 x2 vr0 z0 vr1 z1 vr2 z2 vr3 z3 vr4 z4 vr5 z5 f2
      rcases hsz with h1 | ⟨h1, h2⟩
      · have l1 : ((1 : Int) < (X.size : Int)) = False := eq_false (by omega)
        have l2 : (1 < X.size) = False := eq_false (by omega)
        · skip
          go_wp2_with fail
          refine (conly_any X numT hXp num_plain _).mono ?_
          rintro e w9 ⟨rfl, hb9⟩
          rw [hXn.out]
          have b9 : Below V2.heap.size V2 w9 := hbr.trans (hb9.mono hbr.size)
          go_wp2_with fail
          go_roundw
          case rel => exact ⟨k + 1, by omega, by go_num, b9⟩
          case measure => simp [intOf]; omega
      · have l1 : ((1 : Int) < (X.size : Int)) = True := eq_true (by omega)
        have l2 := h2 (by omega)
        have l3 : 0 < X.size := by omega
        clear h2
        · skip
          go_wp2_with fail
          refine (conly_any X numT hXp num_plain _).mono ?_
          rintro e w9 ⟨rfl, hb9⟩
          rw [hXn.out]
          have b9 : Below V2.heap.size V2 w9 := hbr.trans (hb9.mono hbr.size)
          go_wp2_with fail
          go_roundw
          case rel => exact ⟨k + 1, by omega, by go_num, b9⟩
          case measure => simp [intOf]; omega
    · have ek : k = 3 := by omega
      subst ek
      have lq1 := cellLt9 x0
      have lqv := cellLt9 vr0
      replace f2 := (hbr.frozen (p := ⟨g1, 2, none⟩) lq1).trans f2
      replace z0 := (hbr.frozen (p := ⟨gv, 0, none⟩) lqv).trans z0
      replace z1 := (hbr.frozen (p := ⟨gv, 1, none⟩) lqv).trans z1
      replace z2 := (hbr.frozen (p := ⟨gv, 2, none⟩) lqv).trans z2
      replace z3 := (hbr.frozen (p := ⟨gv, 3, none⟩) lqv).trans z3
      replace z4 := (hbr.frozen (p := ⟨gv, 4, none⟩) lqv).trans z4
      replace z5 := (hbr.frozen (p := ⟨gv, 5, none⟩) lqv).trans z5
      replace x0 := cellB9 hbr x0
      replace x1 := cellB9 hbr x1
      replace x2 := cellB9 hbr x2
      replace vr0 := cellB9 hbr vr0
      replace vr1 := cellB9 hbr vr1
      replace vr2 := cellB9 hbr vr2
      replace vr3 := cellB9 hbr vr3
      replace vr4 := cellB9 hbr vr4
      replace vr5 := cellB9 hbr vr5
      replace bw := bw.trans (hbr.mono bw.size)
      clear lq1 lqv hbr hlt hk
      have nk : w.heap.size ≤ wr.heap.size := bw.size
      go_wp2_with fail
      refine (parse_ok A (by have := nA.out.2.2.2.2; omega) nA.out.2.2.2.1 _).mono ?_
      rintro e q0 ⟨rfl, hq0⟩
      have lq1 := cellLt9 x0
      have lqv := cellLt9 vr0
      replace f2 := (hq0.frozen (p := ⟨g1, 2, none⟩) lq1).trans f2
      replace z0 := (hq0.frozen (p := ⟨gv, 0, none⟩) lqv).trans z0
      replace z1 := (hq0.frozen (p := ⟨gv, 1, none⟩) lqv).trans z1
      replace z2 := (hq0.frozen (p := ⟨gv, 2, none⟩) lqv).trans z2
      replace z3 := (hq0.frozen (p := ⟨gv, 3, none⟩) lqv).trans z3
      replace z4 := (hq0.frozen (p := ⟨gv, 4, none⟩) lqv).trans z4
      replace z5 := (hq0.frozen (p := ⟨gv, 5, none⟩) lqv).trans z5
      replace x0 := cellB9 hq0 x0
      replace x1 := cellB9 hq0 x1
      replace x2 := cellB9 hq0 x2
      replace vr0 := cellB9 hq0 vr0
      replace vr1 := cellB9 hq0 vr1
      replace vr2 := cellB9 hq0 vr2
      replace vr3 := cellB9 hq0 vr3
      replace vr4 := cellB9 hq0 vr4
      replace vr5 := cellB9 hq0 vr5
      replace bw := bw.trans (hq0.mono bw.size)
      clear lq1 lqv hq0
      replace nk : w.heap.size ≤ q0.heap.size := bw.size
      go_wp2_with fail
      replace x0 : (q0.setCell ⟨gv, 0, none⟩ (.int .u64 (numN A : Nat))).cell? ⟨g1, 0, none⟩ = _ := setO (by omega) x0
      replace x1 : (q0.setCell ⟨gv, 0, none⟩ (.int .u64 (numN A : Nat))).cell? ⟨g1, 1, none⟩ = _ := setO (by omega) x1
      replace x2 : (q0.setCell ⟨gv, 0, none⟩ (.int .u64 (numN A : Nat))).cell? ⟨g1, 2, none⟩ = _ := setO (by omega) x2
      replace vr0 : (q0.setCell ⟨gv, 0, none⟩ (.int .u64 (numN A : Nat))).cell? ⟨gv, 0, none⟩ = _ := setS vr0
      replace vr1 : (q0.setCell ⟨gv, 0, none⟩ (.int .u64 (numN A : Nat))).cell? ⟨gv, 1, none⟩ = _ := setO (by omega) vr1
      replace vr2 : (q0.setCell ⟨gv, 0, none⟩ (.int .u64 (numN A : Nat))).cell? ⟨gv, 2, none⟩ = _ := setO (by omega) vr2
      replace vr3 : (q0.setCell ⟨gv, 0, none⟩ (.int .u64 (numN A : Nat))).cell? ⟨gv, 3, none⟩ = _ := setO (by omega) vr3
      replace vr4 : (q0.setCell ⟨gv, 0, none⟩ (.int .u64 (numN A : Nat))).cell? ⟨gv, 4, none⟩ = _ := setO (by omega) vr4
      replace vr5 : (q0.setCell ⟨gv, 0, none⟩ (.int .u64 (numN A : Nat))).cell? ⟨gv, 5, none⟩ = _ := setO (by omega) vr5
      replace f2 : (q0.setCell ⟨gv, 0, none⟩ (.int .u64 (numN A : Nat))).frozen? ⟨g1, 2, none⟩ = false := by rw [World.frozen?_setCell]; exact f2
      replace z0 : (q0.setCell ⟨gv, 0, none⟩ (.int .u64 (numN A : Nat))).frozen? ⟨gv, 0, none⟩ = false := by rw [World.frozen?_setCell]; exact z0
      replace z1 : (q0.setCell ⟨gv, 0, none⟩ (.int .u64 (numN A : Nat))).frozen? ⟨gv, 1, none⟩ = false := by rw [World.frozen?_setCell]; exact z1
      replace z2 : (q0.setCell ⟨gv, 0, none⟩ (.int .u64 (numN A : Nat))).frozen? ⟨gv, 2, none⟩ = false := by rw [World.frozen?_setCell]; exact z2
      replace z3 : (q0.setCell ⟨gv, 0, none⟩ (.int .u64 (numN A : Nat))).frozen? ⟨gv, 3, none⟩ = false := by rw [World.frozen?_setCell]; exact z3
      replace z4 : (q0.setCell ⟨gv, 0, none⟩ (.int .u64 (numN A : Nat))).frozen? ⟨gv, 4, none⟩ = false := by rw [World.frozen?_setCell]; exact z4
      replace z5 : (q0.setCell ⟨gv, 0, none⟩ (.int .u64 (numN A : Nat))).frozen? ⟨gv, 5, none⟩ = false := by rw [World.frozen?_setCell]; exact z5
      replace bw : Below w.heap.size w (q0.setCell ⟨gv, 0, none⟩ (.int .u64 (numN A : Nat))) := Below.setCell bw (by show w.heap.size ≤ gv; omega) _
      show Calls _ _ _ (q0.setCell ⟨gv, 0, none⟩ (.int .u64 (numN A : Nat))) _
      generalize (q0.setCell ⟨gv, 0, none⟩ (.int .u64 (numN A : Nat))) = Q0 at *
      replace nk : w.heap.size ≤ Q0.heap.size := bw.size
      clear q0
      refine (parse_ok B (by have := nB.out.2.2.2.2; omega) nB.out.2.2.2.1 _).mono ?_
      rintro e q1 ⟨rfl, hq1⟩
      have lq1 := cellLt9 x0
      have lqv := cellLt9 vr0
      replace f2 := (hq1.frozen (p := ⟨g1, 2, none⟩) lq1).trans f2
      replace z0 := (hq1.frozen (p := ⟨gv, 0, none⟩) lqv).trans z0
      replace z1 := (hq1.frozen (p := ⟨gv, 1, none⟩) lqv).trans z1
      replace z2 := (hq1.frozen (p := ⟨gv, 2, none⟩) lqv).trans z2
      replace z3 := (hq1.frozen (p := ⟨gv, 3, none⟩) lqv).trans z3
      replace z4 := (hq1.frozen (p := ⟨gv, 4, none⟩) lqv).trans z4
      replace z5 := (hq1.frozen (p := ⟨gv, 5, none⟩) lqv).trans z5
      replace x0 := cellB9 hq1 x0
      replace x1 := cellB9 hq1 x1
      replace x2 := cellB9 hq1 x2
      replace vr0 := cellB9 hq1 vr0
      replace vr1 := cellB9 hq1 vr1
      replace vr2 := cellB9 hq1 vr2
      replace vr3 := cellB9 hq1 vr3
      replace vr4 := cellB9 hq1 vr4
      replace vr5 := cellB9 hq1 vr5
      replace bw := bw.trans (hq1.mono bw.size)
      clear lq1 lqv hq1
      replace nk : w.heap.size ≤ q1.heap.size := bw.size
      go_wp2_with fail
      replace x0 : (q1.setCell ⟨gv, 1, none⟩ (.int .u64 (numN B : Nat))).cell? ⟨g1, 0, none⟩ = _ := setO (by omega) x0
      replace x1 : (q1.setCell ⟨gv, 1, none⟩ (.int .u64 (numN B : Nat))).cell? ⟨g1, 1, none⟩ = _ := setO (by omega) x1
      replace x2 : (q1.setCell ⟨gv, 1, none⟩ (.int .u64 (numN B : Nat))).cell? ⟨g1, 2, none⟩ = _ := setO (by omega) x2
      replace vr0 : (q1.setCell ⟨gv, 1, none⟩ (.int .u64 (numN B : Nat))).cell? ⟨gv, 0, none⟩ = _ := setO (by omega) vr0
      replace vr1 : (q1.setCell ⟨gv, 1, none⟩ (.int .u64 (numN B : Nat))).cell? ⟨gv, 1, none⟩ = _ := setS vr1
      replace vr2 : (q1.setCell ⟨gv, 1, none⟩ (.int .u64 (numN B : Nat))).cell? ⟨gv, 2, none⟩ = _ := setO (by omega) vr2
      replace vr3 : (q1.setCell ⟨gv, 1, none⟩ (.int .u64 (numN B : Nat))).cell? ⟨gv, 3, none⟩ = _ := setO (by omega) vr3
      replace vr4 : (q1.setCell ⟨gv, 1, none⟩ (.int .u64 (numN B : Nat))).cell? ⟨gv, 4, none⟩ = _ := setO (by omega) vr4
      replace vr5 : (q1.setCell ⟨gv, 1, none⟩ (.int .u64 (numN B : Nat))).cell? ⟨gv, 5, none⟩ = _ := setO (by omega) vr5
      replace f2 : (q1.setCell ⟨gv, 1, none⟩ (.int .u64 (numN B : Nat))).frozen? ⟨g1, 2, none⟩ = false := by rw [World.frozen?_setCell]; exact f2
      replace z0 : (q1.setCell ⟨gv, 1, none⟩ (.int .u64 (numN B : Nat))).frozen? ⟨gv, 0, none⟩ = false := by rw [World.frozen?_setCell]; exact z0
      replace z1 : (q1.setCell ⟨gv, 1, none⟩ (.int .u64 (numN B : Nat))).frozen? ⟨gv, 1, none⟩ = false := by rw [World.frozen?_setCell]; exact z1
      replace z2 : (q1.setCell ⟨gv, 1, none⟩ (.int .u64 (numN B : Nat))).frozen? ⟨gv, 2, none⟩ = false := by rw [World.frozen?_setCell]; exact z2
      replace z3 : (q1.setCell ⟨gv, 1, none⟩ (.int .u64 (numN B : Nat))).frozen? ⟨gv, 3, none⟩ = false := by rw [World.frozen?_setCell]; exact z3
      replace z4 : (q1.setCell ⟨gv, 1, none⟩ (.int .u64 (numN B : Nat))).frozen? ⟨gv, 4, none⟩ = false := by rw [World.frozen?_setCell]; exact z4
      replace z5 : (q1.setCell ⟨gv, 1, none⟩ (.int .u64 (numN B : Nat))).frozen? ⟨gv, 5, none⟩ = false := by rw [World.frozen?_setCell]; exact z5
      replace bw : Below w.heap.size w (q1.setCell ⟨gv, 1, none⟩ (.int .u64 (numN B : Nat))) := Below.setCell bw (by show w.heap.size ≤ gv; omega) _
      show Calls _ _ _ (q1.setCell ⟨gv, 1, none⟩ (.int .u64 (numN B : Nat))) _
      generalize (q1.setCell ⟨gv, 1, none⟩ (.int .u64 (numN B : Nat))) = Q1 at *
      replace nk : w.heap.size ≤ Q1.heap.size := bw.size
      clear q1
      refine (parse_ok C (by have := nC.out.2.2.2.2; omega) nC.out.2.2.2.1 _).mono ?_
      rintro e q2 ⟨rfl, hq2⟩
      have lq1 := cellLt9 x0
      have lqv := cellLt9 vr0
      replace f2 := (hq2.frozen (p := ⟨g1, 2, none⟩) lq1).trans f2
      replace z0 := (hq2.frozen (p := ⟨gv, 0, none⟩) lqv).trans z0
      replace z1 := (hq2.frozen (p := ⟨gv, 1, none⟩) lqv).trans z1
      replace z2 := (hq2.frozen (p := ⟨gv, 2, none⟩) lqv).trans z2
      replace z3 := (hq2.frozen (p := ⟨gv, 3, none⟩) lqv).trans z3
      replace z4 := (hq2.frozen (p := ⟨gv, 4, none⟩) lqv).trans z4
      replace z5 := (hq2.frozen (p := ⟨gv, 5, none⟩) lqv).trans z5
      replace x0 := cellB9 hq2 x0
      replace x1 := cellB9 hq2 x1
      replace x2 := cellB9 hq2 x2
      replace vr0 := cellB9 hq2 vr0
      replace vr1 := cellB9 hq2 vr1
      replace vr2 := cellB9 hq2 vr2
      replace vr3 := cellB9 hq2 vr3
      replace vr4 := cellB9 hq2 vr4
      replace vr5 := cellB9 hq2 vr5
      replace bw := bw.trans (hq2.mono bw.size)
      clear lq1 lqv hq2
      replace nk : w.heap.size ≤ q2.heap.size := bw.size
      go_wp2_with fail
      refine bodyPost_ret (v := .tuple #[.pointer (some ⟨gv, 0, none⟩), .nilIface]) (by simp [results, Tryd.results13, go_sem]) rfl ⟨gv, rfl, ⟨setO (by omega) vr0, setO (by omega) vr1, setS vr2, setO (by omega) vr3, setO (by omega) vr4, setO (by omega) vr5⟩, Below.setCell bw (by show w.heap.size ≤ gv; omega) _⟩

set_option maxRecDepth 100000 in
set_option maxHeartbeats 8000000 in
theorem strict_np (t A B C P M C0 C1 : ByteArray) (h0 : 0 < t.size) (h1 : t.size ≤ 256) (zA : A.size ≤ 256) (s0 : C0.size ≤ 256) (s1 : C1.size ≤ 256) (zP : P.size ≤ 256) (zM : M.size ≤ 256) (HT : Hid (cutN 46 2 t = [A, B, C0]))
    (H43 : Hid (C1 = C0 ∧ fstInt C0.data.toList 43 < 0)) (H45 : Hid (cutN 45 1 C1 = [C, P] ∧ 0 ≤ fstInt C1.data.toList 45))
    (nA : Hid (NumOk A)) (nB : Hid (NumOk B)) (nC : Hid (NumOk C)) (hM : Hid ((cutB 46 M).all vidB = true)) (hP : Hid ((cutB 46 P).all preOk = true)) (w : World) :
    Calls Tryd.prog 13 #[.string t] w (StrictPost (numN A : Nat) (numN B : Nat) (numN C : Nat) P ⟨#[]⟩ t w) := by
  have i1 : ((t.size : Int) == 0) = false := by rw [beq_eq_false_iff_ne]; omega
  have i2 : (256 < (t.size : Int)) = False := eq_false (by omega)
  go_enter Tryd.func13, Tryd.ntmps13
  go_wp2_with fail
  refine (splitN_any t 46 (by omega) 2 (by omega) 3 rfl _).mono ?_
  rintro e w1 ⟨v1, rfl, hown1, hb1⟩
  rw [show ((46 : UInt8).toNat : Int) = 46 from rfl, HT.out] at hown1
  obtain ⟨g1, cap1, rfl, hc1, hm1, hcell1⟩ := own_open hown1 (by simp)
  have x0 : w1.cell? ⟨g1, 0, none⟩ = some (.string A) := hcell1 0 (by simp)
  have x1 : w1.cell? ⟨g1, 1, none⟩ = some (.string B) := hcell1 1 (by simp)
  have x2 : w1.cell? ⟨g1, 2, none⟩ = some (.string C0) := hcell1 2 (by simp)
  have f2 : w1.frozen? ⟨g1, 2, none⟩ = false := hown1.frozenAt 2
  have lg1 := (hown1.lt g1 rfl).1
  simp only [List.length_cons, List.length_nil, Nat.zero_add, Nat.reduceAdd] at hc1 ⊢
  unfold maxLen at hm1
  have bk : Below w.heap.size w w1 := hb1
  have nk : w.heap.size ≤ w1.heap.size := bk.size
  have lt1 := (hown1.lt g1 rfl).2
  have ne1 : (g1 = w1.heap.size) = False := eq_false (by omega)
  have ne2 : (w1.heap.size = g1) = False := eq_false (by omega)
  clear hown1 hcell1 hb1
  go_wp2_with fail
  have bkV : Below w1.heap.size w1 (w1.alloc (.cells (verC 0 0 0 ⟨#[]⟩ ⟨#[]⟩ t) 46)) := (Below.refl _ _).alloc (Nat.le_refl _) _
  have hV := heap_alloc_new w1 (.cells (verC 0 0 0 ⟨#[]⟩ ⟨#[]⟩ t) 46)
  replace x0 := keepV (o := (.cells (verC 0 0 0 ⟨#[]⟩ ⟨#[]⟩ t) 46)) x0
  replace x1 := keepV (o := (.cells (verC 0 0 0 ⟨#[]⟩ ⟨#[]⟩ t) 46)) x1
  replace x2 := keepV (o := (.cells (verC 0 0 0 ⟨#[]⟩ ⟨#[]⟩ t) 46)) x2
  replace f2 := (bkV.frozen (p := ⟨g1, 2, none⟩) lt1).trans f2
  have lgv := nk
  have bw : Below w.heap.size w (w1.alloc (.cells (verC 0 0 0 ⟨#[]⟩ ⟨#[]⟩ t) 46)) := bk.trans (bkV.mono nk)
  clear bkV bk nk
  have vr0 : (w1.alloc (.cells (verC 0 0 0 ⟨#[]⟩ ⟨#[]⟩ t) 46)).cell? ⟨w1.heap.size, 0, none⟩ = some (.int .u64 0) := cell_of_row _ w1.heap.size 0 _ _ (0, 0) hV
  have z0 : (w1.alloc (.cells (verC 0 0 0 ⟨#[]⟩ ⟨#[]⟩ t) 46)).frozen? ⟨w1.heap.size, 0, none⟩ = false := by unfold World.frozen?; rw [hV]; simp
  have vr1 : (w1.alloc (.cells (verC 0 0 0 ⟨#[]⟩ ⟨#[]⟩ t) 46)).cell? ⟨w1.heap.size, 1, none⟩ = some (.int .u64 0) := cell_of_row _ w1.heap.size 1 _ _ (0, 0) hV
  have z1 : (w1.alloc (.cells (verC 0 0 0 ⟨#[]⟩ ⟨#[]⟩ t) 46)).frozen? ⟨w1.heap.size, 1, none⟩ = false := by unfold World.frozen?; rw [hV]; simp
  have vr2 : (w1.alloc (.cells (verC 0 0 0 ⟨#[]⟩ ⟨#[]⟩ t) 46)).cell? ⟨w1.heap.size, 2, none⟩ = some (.int .u64 0) := cell_of_row _ w1.heap.size 2 _ _ (0, 0) hV
  have z2 : (w1.alloc (.cells (verC 0 0 0 ⟨#[]⟩ ⟨#[]⟩ t) 46)).frozen? ⟨w1.heap.size, 2, none⟩ = false := by unfold World.frozen?; rw [hV]; simp
  have vr3 : (w1.alloc (.cells (verC 0 0 0 ⟨#[]⟩ ⟨#[]⟩ t) 46)).cell? ⟨w1.heap.size, 3, none⟩ = some (.string ⟨#[]⟩) := cell_of_row _ w1.heap.size 3 _ _ (0, 0) hV
  have z3 : (w1.alloc (.cells (verC 0 0 0 ⟨#[]⟩ ⟨#[]⟩ t) 46)).frozen? ⟨w1.heap.size, 3, none⟩ = false := by unfold World.frozen?; rw [hV]; simp
  have vr4 : (w1.alloc (.cells (verC 0 0 0 ⟨#[]⟩ ⟨#[]⟩ t) 46)).cell? ⟨w1.heap.size, 4, none⟩ = some (.string ⟨#[]⟩) := cell_of_row _ w1.heap.size 4 _ _ (0, 0) hV
  have z4 : (w1.alloc (.cells (verC 0 0 0 ⟨#[]⟩ ⟨#[]⟩ t) 46)).frozen? ⟨w1.heap.size, 4, none⟩ = false := by unfold World.frozen?; rw [hV]; simp
  have vr5 : (w1.alloc (.cells (verC 0 0 0 ⟨#[]⟩ ⟨#[]⟩ t) 46)).cell? ⟨w1.heap.size, 5, none⟩ = some (.string t) := cell_of_row _ w1.heap.size 5 _ _ (0, 0) hV
  have z5 : (w1.alloc (.cells (verC 0 0 0 ⟨#[]⟩ ⟨#[]⟩ t) 46)).frozen? ⟨w1.heap.size, 5, none⟩ = false := by unfold World.frozen?; rw [hV]; simp
  clear hV lt1
  show Calls _ _ _ (w1.alloc (.cells (verC 0 0 0 ⟨#[]⟩ ⟨#[]⟩ t) 46)) _
  generalize w1.alloc (.cells (verC 0 0 0 ⟨#[]⟩ ⟨#[]⟩ t) 46) = W2 at *
  generalize w1.heap.size = gv at *
  clear w1
  have nk : w.heap.size ≤ W2.heap.size := bw.size
  have nn : g1 ≠ gv := by intro e; rw [e] at ne1; simp at ne1
  refine (contains_any C0 43 (by unfold maxLen; omega) _).mono ?_
  rintro e w3 ⟨rfl, rfl⟩
  rw [show decide ((0 : Int) ≤ fstInt C0.data.toList (((43 : UInt8).toNat : Nat) : Int)) = false from decide_eq_false (by have h := H43.out.2; have e : (((43 : UInt8).toNat : Nat) : Int) = 43 := rfl; rw [e]; omega)]
  go_wp2_with fail
  obtain rfl : C1 = C0 := H43.out.1
  refine (contains_any C1 45 (by unfold maxLen; omega) _).mono ?_
  rintro e w3 ⟨rfl, rfl⟩
  rw [show decide ((0 : Int) ≤ fstInt C1.data.toList (((45 : UInt8).toNat : Nat) : Int)) = true from decide_eq_true H45.out.2]
  go_wp2_with fail
  refine (splitN_any C1 45 (by omega) 1 (by omega) 2 rfl _).mono ?_
  rintro e w4 ⟨v4, rfl, hown4, hb4⟩
  rw [show (((45 : UInt8).toNat : Nat) : Int) = 45 from rfl, H45.out.1] at hown4
  obtain ⟨g4, cap4, rfl, hc4, hm4, hcell4⟩ := own_open hown4 (by simp)
  have y4 : w4.cell? ⟨g4, 0, none⟩ = some (.string C) := hcell4 0 (by simp)
  have Y4 : w4.cell? ⟨g4, 1, none⟩ = some (.string P) := hcell4 1 (by simp)
  have lg4 := (hown4.lt g4 rfl).1
  have k4 : g1 < g4 := by have := cellLt9 x0; exact Nat.lt_of_lt_of_le this lg4
  have K4 : gv < g4 := by have := cellLt9 vr0; exact Nat.lt_of_lt_of_le this lg4
  have j4 : (g1 = g4) = False := eq_false (by omega)
  have J4 : (gv = g4) = False := eq_false (by omega)
  have i4 : (g4 = g1) = False := eq_false (by omega)
  have I4 : (g4 = gv) = False := eq_false (by omega)
  simp only [List.length_cons, List.length_nil, Nat.zero_add, Nat.reduceAdd] at hc4 ⊢
  unfold maxLen at hm4
  clear hown4 hcell4
  have lq1 := cellLt9 x0
  have lqv := cellLt9 vr0
  replace f2 := (hb4.frozen (p := ⟨g1, 2, none⟩) lq1).trans f2
  replace z0 := (hb4.frozen (p := ⟨gv, 0, none⟩) lqv).trans z0
  replace z1 := (hb4.frozen (p := ⟨gv, 1, none⟩) lqv).trans z1
  replace z2 := (hb4.frozen (p := ⟨gv, 2, none⟩) lqv).trans z2
  replace z3 := (hb4.frozen (p := ⟨gv, 3, none⟩) lqv).trans z3
  replace z4 := (hb4.frozen (p := ⟨gv, 4, none⟩) lqv).trans z4
  replace z5 := (hb4.frozen (p := ⟨gv, 5, none⟩) lqv).trans z5
  replace x0 := cellB9 hb4 x0
  replace x1 := cellB9 hb4 x1
  replace x2 := cellB9 hb4 x2
  replace vr0 := cellB9 hb4 vr0
  replace vr1 := cellB9 hb4 vr1
  replace vr2 := cellB9 hb4 vr2
  replace vr3 := cellB9 hb4 vr3
  replace vr4 := cellB9 hb4 vr4
  replace vr5 := cellB9 hb4 vr5
  replace bw := bw.trans (hb4.mono nk)
  replace nk := bw.size
  clear lq1 lqv hb4
  go_wp2_with fail
  have bE : Below w.heap.size w ((w4.setCell ⟨gv, 3, none⟩ (.string P)).setCell ⟨g1, 2, none⟩ (.string C)) := Below.setCell (Below.setCell bw (by show w.heap.size ≤ gv; omega) _) (by show w.heap.size ≤ g1; omega) _
  have zE : ((w4.setCell ⟨gv, 3, none⟩ (.string P)).setCell ⟨g1, 2, none⟩ (.string C)).heap.size = w4.heap.size := by simp
  have ef2 : ((w4.setCell ⟨gv, 3, none⟩ (.string P)).setCell ⟨g1, 2, none⟩ (.string C)).frozen? ⟨g1, 2, none⟩ = false := by rw [World.frozen?_setCell, World.frozen?_setCell]; exact f2
  have ez0 : ((w4.setCell ⟨gv, 3, none⟩ (.string P)).setCell ⟨g1, 2, none⟩ (.string C)).frozen? ⟨gv, 0, none⟩ = false := by rw [World.frozen?_setCell, World.frozen?_setCell]; exact z0
  have ez1 : ((w4.setCell ⟨gv, 3, none⟩ (.string P)).setCell ⟨g1, 2, none⟩ (.string C)).frozen? ⟨gv, 1, none⟩ = false := by rw [World.frozen?_setCell, World.frozen?_setCell]; exact z1
  have ez2 : ((w4.setCell ⟨gv, 3, none⟩ (.string P)).setCell ⟨g1, 2, none⟩ (.string C)).frozen? ⟨gv, 2, none⟩ = false := by rw [World.frozen?_setCell, World.frozen?_setCell]; exact z2
  have ez3 : ((w4.setCell ⟨gv, 3, none⟩ (.string P)).setCell ⟨g1, 2, none⟩ (.string C)).frozen? ⟨gv, 3, none⟩ = false := by rw [World.frozen?_setCell, World.frozen?_setCell]; exact z3
  have ez4 : ((w4.setCell ⟨gv, 3, none⟩ (.string P)).setCell ⟨g1, 2, none⟩ (.string C)).frozen? ⟨gv, 4, none⟩ = false := by rw [World.frozen?_setCell, World.frozen?_setCell]; exact z4
  have ez5 : ((w4.setCell ⟨gv, 3, none⟩ (.string P)).setCell ⟨g1, 2, none⟩ (.string C)).frozen? ⟨gv, 5, none⟩ = false := by rw [World.frozen?_setCell, World.frozen?_setCell]; exact z5
  have lq1 : g1 < ((w4.setCell ⟨gv, 3, none⟩ (.string P)).setCell ⟨g1, 2, none⟩ (.string C)).heap.size := by rw [zE]; exact cellLt9 x0
  have lqv : gv < ((w4.setCell ⟨gv, 3, none⟩ (.string P)).setCell ⟨g1, 2, none⟩ (.string C)).heap.size := by rw [zE]; exact cellLt9 vr0
  refine (validatePrerelease_any P (by omega) hP _).mono ?_
  rintro e V4 ⟨rfl, Hb4⟩
  replace x0 := cellB9 Hb4 (setO (by omega) (setO (by omega) x0))
  replace x1 := cellB9 Hb4 (setO (by omega) (setO (by omega) x1))
  replace x2 := cellB9 Hb4 (setS (setO (by omega) x2))
  replace vr0 := cellB9 Hb4 (setO (by omega) (setO (by omega) vr0))
  replace vr1 := cellB9 Hb4 (setO (by omega) (setO (by omega) vr1))
  replace vr2 := cellB9 Hb4 (setO (by omega) (setO (by omega) vr2))
  replace vr3 := cellB9 Hb4 (setO (by omega) (setS vr3))
  replace vr4 := cellB9 Hb4 (setO (by omega) (setO (by omega) vr4))
  replace vr5 := cellB9 Hb4 (setO (by omega) (setO (by omega) vr5))
  replace f2 := (Hb4.frozen (p := ⟨g1, 2, none⟩) lq1).trans ef2
  replace z0 := (Hb4.frozen (p := ⟨gv, 0, none⟩) lqv).trans ez0
  replace z1 := (Hb4.frozen (p := ⟨gv, 1, none⟩) lqv).trans ez1
  replace z2 := (Hb4.frozen (p := ⟨gv, 2, none⟩) lqv).trans ez2
  replace z3 := (Hb4.frozen (p := ⟨gv, 3, none⟩) lqv).trans ez3
  replace z4 := (Hb4.frozen (p := ⟨gv, 4, none⟩) lqv).trans ez4
  replace z5 := (Hb4.frozen (p := ⟨gv, 5, none⟩) lqv).trans ez5
  replace bw := bE.trans (Hb4.mono bE.size)
  replace nk := bw.size
  clear bE zE lq1 lqv Hb4 ef2 ez0 ez1 ez2 ez3 ez4 ez5
  go_wp2_with fail
  go_loopw [86] (fun i wr => ∃ k : Nat, k ≤ 3 ∧ i = .int .i64 k ∧ Below V4.heap.size V4 wr) (fun i _ => 3 - (intOf i).toNat)
  case atStart => exact ⟨0, by omega, rfl, Below.refl _ _⟩
  case round =>
    obtain ⟨k, hk, rfl, hbr⟩ := hrel
    by_cases hlt : k < 3
    · obtain ⟨X, hX, hcx⟩ : ∃ X, Hid (NumOk X) ∧ V4.cell? ⟨g1, k, none⟩ = some (.string X) := by
        have hk3 : k = 0 ∨ k = 1 ∨ k = 2 := by omega
        rcases hk3 with rfl | rfl | rfl
        · exact ⟨A, nA, x0⟩
        · exact ⟨B, nB, x1⟩
        · exact ⟨C, nC, x2⟩
      have hca : wr.cell? ⟨g1, k, none⟩ = some (.string X) := cellB9 hbr hcx
      obtain ⟨p1, p2, p3, -, p5⟩ := hX.out
      have hXp := Lib.hid p1
      have hXn := Lib.hid p2
      clear p1 p2 hcx
      have hsz : X.size ≤ 1 ∨ (1 < X.size ∧ ∀ h : 0 < X.size, (((X[0]'h).toNat : Int) == 48) = false) := by
        by_cases h1 : 1 < X.size
        · exact .inr ⟨h1, p3 h1⟩
        · exact .inl (by omega)
      clear p3
      clear x0 x1 x2 vr0 z0 vr1 z1 vr2 z2 vr3 z3 vr4 z4 vr5 z5 f2
      rcases hsz with h1 | ⟨h1, h2⟩
      · have l1 : ((1 : Int) < (X.size : Int)) = False := eq_false (by omega)
        have l2 : (1 < X.size) = False := eq_false (by omega)
        · skip
          go_wp2_with fail
          refine (conly_any X numT hXp num_plain _).mono ?_
          rintro e w9 ⟨rfl, hb9⟩
          rw [hXn.out]
          have b9 : Below V4.heap.size V4 w9 := hbr.trans (hb9.mono hbr.size)
          go_wp2_with fail
          go_roundw
          case rel => exact ⟨k + 1, by omega, by go_num, b9⟩
          case measure => simp [intOf]; omega
      · have l1 : ((1 : Int) < (X.size : Int)) = True := eq_true (by omega)
        have l2 := h2 (by omega)
        have l3 : 0 < X.size := by omega
        clear h2
        · skip
          go_wp2_with fail
          refine (conly_any X numT hXp num_plain _).mono ?_
          rintro e w9 ⟨rfl, hb9⟩
          rw [hXn.out]
          have b9 : Below V4.heap.size V4 w9 := hbr.trans (hb9.mono hbr.size)
          go_wp2_with fail
          go_roundw
          case rel => exact ⟨k + 1, by omega, by go_num, b9⟩
          case measure => simp [intOf]; omega
    · have ek : k = 3 := by omega
      subst ek
      have lq1 := cellLt9 x0
      have lqv := cellLt9 vr0
      replace f2 := (hbr.frozen (p := ⟨g1, 2, none⟩) lq1).trans f2
      replace z0 := (hbr.frozen (p := ⟨gv, 0, none⟩) lqv).trans z0
      replace z1 := (hbr.frozen (p := ⟨gv, 1, none⟩) lqv).trans z1
      replace z2 := (hbr.frozen (p := ⟨gv, 2, none⟩) lqv).trans z2
      replace z3 := (hbr.frozen (p := ⟨gv, 3, none⟩) lqv).trans z3
      replace z4 := (hbr.frozen (p := ⟨gv, 4, none⟩) lqv).trans z4
      replace z5 := (hbr.frozen (p := ⟨gv, 5, none⟩) lqv).trans z5
      replace x0 := cellB9 hbr x0
      replace x1 := cellB9 hbr x1
      replace x2 := cellB9 hbr x2
      replace vr0 := cellB9 hbr vr0
      replace vr1 := cellB9 hbr vr1
      replace vr2 := cellB9 hbr vr2
      replace vr3 := cellB9 hbr vr3
      replace vr4 := cellB9 hbr vr4
      replace vr5 := cellB9 hbr vr5
      replace bw := bw.trans (hbr.mono bw.size)
      clear lq1 lqv hbr hlt hk
      have nk : w.heap.size ≤ wr.heap.size := bw.size
      go_wp2_with fail
      refine (parse_ok A (by have := nA.out.2.2.2.2; omega) nA.out.2.2.2.1 _).mono ?_
      rintro e q0 ⟨rfl, hq0⟩
      have lq1 := cellLt9 x0
      have lqv := cellLt9 vr0
      replace f2 := (hq0.frozen (p := ⟨g1, 2, none⟩) lq1).trans f2
      replace z0 := (hq0.frozen (p := ⟨gv, 0, none⟩) lqv).trans z0
      replace z1 := (hq0.frozen (p := ⟨gv, 1, none⟩) lqv).trans z1
      replace z2 := (hq0.frozen (p := ⟨gv, 2, none⟩) lqv).trans z2
      replace z3 := (hq0.frozen (p := ⟨gv, 3, none⟩) lqv).trans z3
      replace z4 := (hq0.frozen (p := ⟨gv, 4, none⟩) lqv).trans z4
      replace z5 := (hq0.frozen (p := ⟨gv, 5, none⟩) lqv).trans z5
      replace x0 := cellB9 hq0 x0
      replace x1 := cellB9 hq0 x1
      replace x2 := cellB9 hq0 x2
      replace vr0 := cellB9 hq0 vr0
      replace vr1 := cellB9 hq0 vr1
      replace vr2 := cellB9 hq0 vr2
      replace vr3 := cellB9 hq0 vr3
      replace vr4 := cellB9 hq0 vr4
      replace vr5 := cellB9 hq0 vr5
      replace bw := bw.trans (hq0.mono bw.size)
      clear lq1 lqv hq0
      replace nk : w.heap.size ≤ q0.heap.size := bw.size
      go_wp2_with fail
      replace x0 : (q0.setCell ⟨gv, 0, none⟩ (.int .u64 (numN A : Nat))).cell? ⟨g1, 0, none⟩ = _ := setO (by omega) x0
      replace x1 : (q0.setCell ⟨gv, 0, none⟩ (.int .u64 (numN A : Nat))).cell? ⟨g1, 1, none⟩ = _ := setO (by omega) x1
      replace x2 : (q0.setCell ⟨gv, 0, none⟩ (.int .u64 (numN A : Nat))).cell? ⟨g1, 2, none⟩ = _ := setO (by omega) x2
      replace vr0 : (q0.setCell ⟨gv, 0, none⟩ (.int .u64 (numN A : Nat))).cell? ⟨gv, 0, none⟩ = _ := setS vr0
      replace vr1 : (q0.setCell ⟨gv, 0, none⟩ (.int .u64 (numN A : Nat))).cell? ⟨gv, 1, none⟩ = _ := setO (by omega) vr1
      replace vr2 : (q0.setCell ⟨gv, 0, none⟩ (.int .u64 (numN A : Nat))).cell? ⟨gv, 2, none⟩ = _ := setO (by omega) vr2
      replace vr3 : (q0.setCell ⟨gv, 0, none⟩ (.int .u64 (numN A : Nat))).cell? ⟨gv, 3, none⟩ = _ := setO (by omega) vr3
      replace vr4 : (q0.setCell ⟨gv, 0, none⟩ (.int .u64 (numN A : Nat))).cell? ⟨gv, 4, none⟩ = _ := setO (by omega) vr4
      replace vr5 : (q0.setCell ⟨gv, 0, none⟩ (.int .u64 (numN A : Nat))).cell? ⟨gv, 5, none⟩ = _ := setO (by omega) vr5
      replace f2 : (q0.setCell ⟨gv, 0, none⟩ (.int .u64 (numN A : Nat))).frozen? ⟨g1, 2, none⟩ = false := by rw [World.frozen?_setCell]; exact f2
      replace z0 : (q0.setCell ⟨gv, 0, none⟩ (.int .u64 (numN A : Nat))).frozen? ⟨gv, 0, none⟩ = false := by rw [World.frozen?_setCell]; exact z0
      replace z1 : (q0.setCell ⟨gv, 0, none⟩ (.int .u64 (numN A : Nat))).frozen? ⟨gv, 1, none⟩ = false := by rw [World.frozen?_setCell]; exact z1
      replace z2 : (q0.setCell ⟨gv, 0, none⟩ (.int .u64 (numN A : Nat))).frozen? ⟨gv, 2, none⟩ = false := by rw [World.frozen?_setCell]; exact z2
      replace z3 : (q0.setCell ⟨gv, 0, none⟩ (.int .u64 (numN A : Nat))).frozen? ⟨gv, 3, none⟩ = false := by rw [World.frozen?_setCell]; exact z3
      replace z4 : (q0.setCell ⟨gv, 0, none⟩ (.int .u64 (numN A : Nat))).frozen? ⟨gv, 4, none⟩ = false := by rw [World.frozen?_setCell]; exact z4
      replace z5 : (q0.setCell ⟨gv, 0, none⟩ (.int .u64 (numN A : Nat))).frozen? ⟨gv, 5, none⟩ = false := by rw [World.frozen?_setCell]; exact z5
      replace bw : Below w.heap.size w (q0.setCell ⟨gv, 0, none⟩ (.int .u64 (numN A : Nat))) := Below.setCell bw (by show w.heap.size ≤ gv; omega) _
      show Calls _ _ _ (q0.setCell ⟨gv, 0, none⟩ (.int .u64 (numN A : Nat))) _
      generalize (q0.setCell ⟨gv, 0, none⟩ (.int .u64 (numN A : Nat))) = Q0 at *
      replace nk : w.heap.size ≤ Q0.heap.size := bw.size
      clear q0
      refine (parse_ok B (by have := nB.out.2.2.2.2; omega) nB.out.2.2.2.1 _).mono ?_
      rintro e q1 ⟨rfl, hq1⟩
      have lq1 := cellLt9 x0
      have lqv := cellLt9 vr0
      replace f2 := (hq1.frozen (p := ⟨g1, 2, none⟩) lq1).trans f2
      replace z0 := (hq1.frozen (p := ⟨gv, 0, none⟩) lqv).trans z0
      replace z1 := (hq1.frozen (p := ⟨gv, 1, none⟩) lqv).trans z1
      replace z2 := (hq1.frozen (p := ⟨gv, 2, none⟩) lqv).trans z2
      replace z3 := (hq1.frozen (p := ⟨gv, 3, none⟩) lqv).trans z3
      replace z4 := (hq1.frozen (p := ⟨gv, 4, none⟩) lqv).trans z4
      replace z5 := (hq1.frozen (p := ⟨gv, 5, none⟩) lqv).trans z5
      replace x0 := cellB9 hq1 x0
      replace x1 := cellB9 hq1 x1
      replace x2 := cellB9 hq1 x2
      replace vr0 := cellB9 hq1 vr0
      replace vr1 := cellB9 hq1 vr1
      replace vr2 := cellB9 hq1 vr2
      replace vr3 := cellB9 hq1 vr3
      replace vr4 := cellB9 hq1 vr4
      replace vr5 := cellB9 hq1 vr5
      replace bw := bw.trans (hq1.mono bw.size)
      clear lq1 lqv hq1
      replace nk : w.heap.size ≤ q1.heap.size := bw.size
      go_wp2_with fail
      replace x0 : (q1.setCell ⟨gv, 1, none⟩ (.int .u64 (numN B : Nat))).cell? ⟨g1, 0, none⟩ = _ := setO (by omega) x0
      replace x1 : (q1.setCell ⟨gv, 1, none⟩ (.int .u64 (numN B : Nat))).cell? ⟨g1, 1, none⟩ = _ := setO (by omega) x1
      replace x2 : (q1.setCell ⟨gv, 1, none⟩ (.int .u64 (numN B : Nat))).cell? ⟨g1, 2, none⟩ = _ := setO (by omega) x2
      replace vr0 : (q1.setCell ⟨gv, 1, none⟩ (.int .u64 (numN B : Nat))).cell? ⟨gv, 0, none⟩ = _ := setO (by omega) vr0
      replace vr1 : (q1.setCell ⟨gv, 1, none⟩ (.int .u64 (numN B : Nat))).cell? ⟨gv, 1, none⟩ = _ := setS vr1
      replace vr2 : (q1.setCell ⟨gv, 1, none⟩ (.int .u64 (numN B : Nat))).cell? ⟨gv, 2, none⟩ = _ := setO (by omega) vr2
      replace vr3 : (q1.setCell ⟨gv, 1, none⟩ (.int .u64 (numN B : Nat))).cell? ⟨gv, 3, none⟩ = _ := setO (by omega) vr3
      replace vr4 : (q1.setCell ⟨gv, 1, none⟩ (.int .u64 (numN B : Nat))).cell? ⟨gv, 4, none⟩ = _ := setO (by omega) vr4
      replace vr5 : (q1.setCell ⟨gv, 1, none⟩ (.int .u64 (numN B : Nat))).cell? ⟨gv, 5, none⟩ = _ := setO (by omega) vr5
      replace f2 : (q1.setCell ⟨gv, 1, none⟩ (.int .u64 (numN B : Nat))).frozen? ⟨g1, 2, none⟩ = false := by rw [World.frozen?_setCell]; exact f2
      replace z0 : (q1.setCell ⟨gv, 1, none⟩ (.int .u64 (numN B : Nat))).frozen? ⟨gv, 0, none⟩ = false := by rw [World.frozen?_setCell]; exact z0
      replace z1 : (q1.setCell ⟨gv, 1, none⟩ (.int .u64 (numN B : Nat))).frozen? ⟨gv, 1, none⟩ = false := by rw [World.frozen?_setCell]; exact z1
      replace z2 : (q1.setCell ⟨gv, 1, none⟩ (.int .u64 (numN B : Nat))).frozen? ⟨gv, 2, none⟩ = false := by rw [World.frozen?_setCell]; exact z2
      replace z3 : (q1.setCell ⟨gv, 1, none⟩ (.int .u64 (numN B : Nat))).frozen? ⟨gv, 3, none⟩ = false := by rw [World.frozen?_setCell]; exact z3
      replace z4 : (q1.setCell ⟨gv, 1, none⟩ (.int .u64 (numN B : Nat))).frozen? ⟨gv, 4, none⟩ = false := by rw [World.frozen?_setCell]; exact z4
      replace z5 : (q1.setCell ⟨gv, 1, none⟩ (.int .u64 (numN B : Nat))).frozen? ⟨gv, 5, none⟩ = false := by rw [World.frozen?_setCell]; exact z5
      replace bw : Below w.heap.size w (q1.setCell ⟨gv, 1, none⟩ (.int .u64 (numN B : Nat))) := Below.setCell bw (by show w.heap.size ≤ gv; omega) _
      show Calls _ _ _ (q1.setCell ⟨gv, 1, none⟩ (.int .u64 (numN B : Nat))) _
      generalize (q1.setCell ⟨gv, 1, none⟩ (.int .u64 (numN B : Nat))) = Q1 at *
      replace nk : w.heap.size ≤ Q1.heap.size := bw.size
      clear q1
      refine (parse_ok C (by have := nC.out.2.2.2.2; omega) nC.out.2.2.2.1 _).mono ?_
      rintro e q2 ⟨rfl, hq2⟩
      have lq1 := cellLt9 x0
      have lqv := cellLt9 vr0
      replace f2 := (hq2.frozen (p := ⟨g1, 2, none⟩) lq1).trans f2
      replace z0 := (hq2.frozen (p := ⟨gv, 0, none⟩) lqv).trans z0
      replace z1 := (hq2.frozen (p := ⟨gv, 1, none⟩) lqv).trans z1
      replace z2 := (hq2.frozen (p := ⟨gv, 2, none⟩) lqv).trans z2
      replace z3 := (hq2.frozen (p := ⟨gv, 3, none⟩) lqv).trans z3
      replace z4 := (hq2.frozen (p := ⟨gv, 4, none⟩) lqv).trans z4
      replace z5 := (hq2.frozen (p := ⟨gv, 5, none⟩) lqv).trans z5
      replace x0 := cellB9 hq2 x0
      replace x1 := cellB9 hq2 x1
      replace x2 := cellB9 hq2 x2
      replace vr0 := cellB9 hq2 vr0
      replace vr1 := cellB9 hq2 vr1
      replace vr2 := cellB9 hq2 vr2
      replace vr3 := cellB9 hq2 vr3
      replace vr4 := cellB9 hq2 vr4
      replace vr5 := cellB9 hq2 vr5
      replace bw := bw.trans (hq2.mono bw.size)
      clear lq1 lqv hq2
      replace nk : w.heap.size ≤ q2.heap.size := bw.size
      go_wp2_with fail
      refine bodyPost_ret (v := .tuple #[.pointer (some ⟨gv, 0, none⟩), .nilIface]) (by simp [results, Tryd.results13, go_sem]) rfl ⟨gv, rfl, ⟨setO (by omega) vr0, setO (by omega) vr1, setS vr2, setO (by omega) vr3, setO (by omega) vr4, setO (by omega) vr5⟩, Below.setCell bw (by show w.heap.size ≤ gv; omega) _⟩

set_option maxRecDepth 100000 in
set_option maxHeartbeats 8000000 in
theorem strict_nn (t A B C P M C0 C1 : ByteArray) (h0 : 0 < t.size) (h1 : t.size ≤ 256) (zA : A.size ≤ 256) (s0 : C0.size ≤ 256) (s1 : C1.size ≤ 256) (zP : P.size ≤ 256) (zM : M.size ≤ 256) (HT : Hid (cutN 46 2 t = [A, B, C0]))
    (H43 : Hid (C1 = C0 ∧ fstInt C0.data.toList 43 < 0)) (H45 : Hid (C = C1 ∧ fstInt C1.data.toList 45 < 0))
    (nA : Hid (NumOk A)) (nB : Hid (NumOk B)) (nC : Hid (NumOk C)) (hM : Hid ((cutB 46 M).all vidB = true)) (hP : Hid ((cutB 46 P).all preOk = true)) (w : World) :
    Calls Tryd.prog 13 #[.string t] w (StrictPost (numN A : Nat) (numN B : Nat) (numN C : Nat) ⟨#[]⟩ ⟨#[]⟩ t w) := by
  have i1 : ((t.size : Int) == 0) = false := by rw [beq_eq_false_iff_ne]; omega
  have i2 : (256 < (t.size : Int)) = False := eq_false (by omega)
  go_enter Tryd.func13, Tryd.ntmps13
  go_wp2_with fail
  refine (splitN_any t 46 (by omega) 2 (by omega) 3 rfl _).mono ?_
  rintro e w1 ⟨v1, rfl, hown1, hb1⟩
  rw [show ((46 : UInt8).toNat : Int) = 46 from rfl, HT.out] at hown1
  obtain ⟨g1, cap1, rfl, hc1, hm1, hcell1⟩ := own_open hown1 (by simp)
  have x0 : w1.cell? ⟨g1, 0, none⟩ = some (.string A) := hcell1 0 (by simp)
  have x1 : w1.cell? ⟨g1, 1, none⟩ = some (.string B) := hcell1 1 (by simp)
  have x2 : w1.cell? ⟨g1, 2, none⟩ = some (.string C0) := hcell1 2 (by simp)
  have f2 : w1.frozen? ⟨g1, 2, none⟩ = false := hown1.frozenAt 2
  have lg1 := (hown1.lt g1 rfl).1
  simp only [List.length_cons, List.length_nil, Nat.zero_add, Nat.reduceAdd] at hc1 ⊢
  unfold maxLen at hm1
  have bk : Below w.heap.size w w1 := hb1
  have nk : w.heap.size ≤ w1.heap.size := bk.size
  have lt1 := (hown1.lt g1 rfl).2
  have ne1 : (g1 = w1.heap.size) = False := eq_false (by omega)
  have ne2 : (w1.heap.size = g1) = False := eq_false (by omega)
  clear hown1 hcell1 hb1
  go_wp2_with fail
  have bkV : Below w1.heap.size w1 (w1.alloc (.cells (verC 0 0 0 ⟨#[]⟩ ⟨#[]⟩ t) 46)) := (Below.refl _ _).alloc (Nat.le_refl _) _
  have hV := heap_alloc_new w1 (.cells (verC 0 0 0 ⟨#[]⟩ ⟨#[]⟩ t) 46)
  replace x0 := keepV (o := (.cells (verC 0 0 0 ⟨#[]⟩ ⟨#[]⟩ t) 46)) x0
  replace x1 := keepV (o := (.cells (verC 0 0 0 ⟨#[]⟩ ⟨#[]⟩ t) 46)) x1
  replace x2 := keepV (o := (.cells (verC 0 0 0 ⟨#[]⟩ ⟨#[]⟩ t) 46)) x2
  replace f2 := (bkV.frozen (p := ⟨g1, 2, none⟩) lt1).trans f2
  have lgv := nk
  have bw : Below w.heap.size w (w1.alloc (.cells (verC 0 0 0 ⟨#[]⟩ ⟨#[]⟩ t) 46)) := bk.trans (bkV.mono nk)
  clear bkV bk nk
  have vr0 : (w1.alloc (.cells (verC 0 0 0 ⟨#[]⟩ ⟨#[]⟩ t) 46)).cell? ⟨w1.heap.size, 0, none⟩ = some (.int .u64 0) := cell_of_row _ w1.heap.size 0 _ _ (0, 0) hV
  have z0 : (w1.alloc (.cells (verC 0 0 0 ⟨#[]⟩ ⟨#[]⟩ t) 46)).frozen? ⟨w1.heap.size, 0, none⟩ = false := by unfold World.frozen?; rw [hV]; simp
  have vr1 : (w1.alloc (.cells (verC 0 0 0 ⟨#[]⟩ ⟨#[]⟩ t) 46)).cell? ⟨w1.heap.size, 1, none⟩ = some (.int .u64 0) := cell_of_row _ w1.heap.size 1 _ _ (0, 0) hV
  have z1 : (w1.alloc (.cells (verC 0 0 0 ⟨#[]⟩ ⟨#[]⟩ t) 46)).frozen? ⟨w1.heap.size, 1, none⟩ = false := by unfold World.frozen?; rw [hV]; simp
  have vr2 : (w1.alloc (.cells (verC 0 0 0 ⟨#[]⟩ ⟨#[]⟩ t) 46)).cell? ⟨w1.heap.size, 2, none⟩ = some (.int .u64 0) := cell_of_row _ w1.heap.size 2 _ _ (0, 0) hV
  have z2 : (w1.alloc (.cells (verC 0 0 0 ⟨#[]⟩ ⟨#[]⟩ t) 46)).frozen? ⟨w1.heap.size, 2, none⟩ = false := by unfold World.frozen?; rw [hV]; simp
  have vr3 : (w1.alloc (.cells (verC 0 0 0 ⟨#[]⟩ ⟨#[]⟩ t) 46)).cell? ⟨w1.heap.size, 3, none⟩ = some (.string ⟨#[]⟩) := cell_of_row _ w1.heap.size 3 _ _ (0, 0) hV
  have z3 : (w1.alloc (.cells (verC 0 0 0 ⟨#[]⟩ ⟨#[]⟩ t) 46)).frozen? ⟨w1.heap.size, 3, none⟩ = false := by unfold World.frozen?; rw [hV]; simp
  have vr4 : (w1.alloc (.cells (verC 0 0 0 ⟨#[]⟩ ⟨#[]⟩ t) 46)).cell? ⟨w1.heap.size, 4, none⟩ = some (.string ⟨#[]⟩) := cell_of_row _ w1.heap.size 4 _ _ (0, 0) hV
  have z4 : (w1.alloc (.cells (verC 0 0 0 ⟨#[]⟩ ⟨#[]⟩ t) 46)).frozen? ⟨w1.heap.size, 4, none⟩ = false := by unfold World.frozen?; rw [hV]; simp
  have vr5 : (w1.alloc (.cells (verC 0 0 0 ⟨#[]⟩ ⟨#[]⟩ t) 46)).cell? ⟨w1.heap.size, 5, none⟩ = some (.string t) := cell_of_row _ w1.heap.size 5 _ _ (0, 0) hV
  have z5 : (w1.alloc (.cells (verC 0 0 0 ⟨#[]⟩ ⟨#[]⟩ t) 46)).frozen? ⟨w1.heap.size, 5, none⟩ = false := by unfold World.frozen?; rw [hV]; simp
  clear hV lt1
  show Calls _ _ _ (w1.alloc (.cells (verC 0 0 0 ⟨#[]⟩ ⟨#[]⟩ t) 46)) _
  generalize w1.alloc (.cells (verC 0 0 0 ⟨#[]⟩ ⟨#[]⟩ t) 46) = W2 at *
  generalize w1.heap.size = gv at *
  clear w1
  have nk : w.heap.size ≤ W2.heap.size := bw.size
  have nn : g1 ≠ gv := by intro e; rw [e] at ne1; simp at ne1
  refine (contains_any C0 43 (by unfold maxLen; omega) _).mono ?_
  rintro e w3 ⟨rfl, rfl⟩
  rw [show decide ((0 : Int) ≤ fstInt C0.data.toList (((43 : UInt8).toNat : Nat) : Int)) = false from decide_eq_false (by have h := H43.out.2; have e : (((43 : UInt8).toNat : Nat) : Int) = 43 := rfl; rw [e]; omega)]
  go_wp2_with fail
  obtain rfl : C1 = C0 := H43.out.1
  refine (contains_any C1 45 (by unfold maxLen; omega) _).mono ?_
  rintro e w3 ⟨rfl, rfl⟩
  rw [show decide ((0 : Int) ≤ fstInt C1.data.toList (((45 : UInt8).toNat : Nat) : Int)) = false from decide_eq_false (by have h := H45.out.2; have e : (((45 : UInt8).toNat : Nat) : Int) = 45 := rfl; rw [e]; omega)]
  go_wp2_with fail
  obtain rfl : C = C1 := H45.out.1
  go_loopw [86] (fun i wr => ∃ k : Nat, k ≤ 3 ∧ i = .int .i64 k ∧ Below W2.heap.size W2 wr) (fun i _ => 3 - (intOf i).toNat)
  case atStart => exact ⟨0, by omega, rfl, Below.refl _ _⟩
  case round =>
    obtain ⟨k, hk, rfl, hbr⟩ := hrel
    by_cases hlt : k < 3
    · obtain ⟨X, hX, hcx⟩ : ∃ X, Hid (NumOk X) ∧ W2.cell? ⟨g1, k, none⟩ = some (.string X) := by
        have hk3 : k = 0 ∨ k = 1 ∨ k = 2 := by omega
        rcases hk3 with rfl | rfl | rfl
        · exact ⟨A, nA, x0⟩
        · exact ⟨B, nB, x1⟩
        · exact ⟨C, nC, x2⟩
      have hca : wr.cell? ⟨g1, k, none⟩ = some (.string X) := cellB9 hbr hcx
      obtain ⟨p1, p2, p3, -, p5⟩ := hX.out
      have hXp := Lib.hid p1
      have hXn := Lib.hid p2
      clear p1 p2 hcx
      have hsz : X.size ≤ 1 ∨ (1 < X.size ∧ ∀ h : 0 < X.size, (((X[0]'h).toNat : Int) == 48) = false) := by
        by_cases h1 : 1 < X.size
        · exact .inr ⟨h1, p3 h1⟩
        · exact .inl (by omega)
      clear p3
      clear x0 x1 x2 vr0 z0 vr1 z1 vr2 z2 vr3 z3 vr4 z4 vr5 z5 f2
      rcases hsz with h1 | ⟨h1, h2⟩
      · have l1 : ((1 : Int) < (X.size : Int)) = False := eq_false (by omega)
        have l2 : (1 < X.size) = False := eq_false (by omega)
        · skip
          go_wp2_with fail
          refine (conly_any X numT hXp num_plain _).mono ?_
          rintro e w9 ⟨rfl, hb9⟩
          rw [hXn.out]
          have b9 : Below W2.heap.size W2 w9 := hbr.trans (hb9.mono hbr.size)
          go_wp2_with fail
          go_roundw
          case rel => exact ⟨k + 1, by omega, by go_num, b9⟩
          case measure => simp [intOf]; omega
      · have l1 : ((1 : Int) < (X.size : Int)) = True := eq_true (by omega)
        have l2 := h2 (by omega)
        have l3 : 0 < X.size := by omega
        clear h2
        · skip
          go_wp2_with fail
          refine (conly_any X numT hXp num_plain _).mono ?_
          rintro e w9 ⟨rfl, hb9⟩
          rw [hXn.out]
          have b9 : Below W2.heap.size W2 w9 := hbr.trans (hb9.mono hbr.size)
          go_wp2_with fail
          go_roundw
          case rel => exact ⟨k + 1, by omega, by go_num, b9⟩
          case measure => simp [intOf]; omega
    · have ek : k = 3 := by omega
      subst ek
      have lq1 := cellLt9 x0
      have lqv := cellLt9 vr0
      replace f2 := (hbr.frozen (p := ⟨g1, 2, none⟩) lq1).trans f2
      replace z0 := (hbr.frozen (p := ⟨gv, 0, none⟩) lqv).trans z0
      replace z1 := (hbr.frozen (p := ⟨gv, 1, none⟩) lqv).trans z1
      replace z2 := (hbr.frozen (p := ⟨gv, 2, none⟩) lqv).trans z2
      replace z3 := (hbr.frozen (p := ⟨gv, 3, none⟩) lqv).trans z3
      replace z4 := (hbr.frozen (p := ⟨gv, 4, none⟩) lqv).trans z4
      replace z5 := (hbr.frozen (p := ⟨gv, 5, none⟩) lqv).trans z5
      replace x0 := cellB9 hbr x0
      replace x1 := cellB9 hbr x1
      replace x2 := cellB9 hbr x2
      replace vr0 := cellB9 hbr vr0
      replace vr1 := cellB9 hbr vr1
      replace vr2 := cellB9 hbr vr2
      replace vr3 := cellB9 hbr vr3
      replace vr4 := cellB9 hbr vr4
      replace vr5 := cellB9 hbr vr5
      replace bw := bw.trans (hbr.mono bw.size)
      clear lq1 lqv hbr hlt hk
      have nk : w.heap.size ≤ wr.heap.size := bw.size
      go_wp2_with fail
      refine (parse_ok A (by have := nA.out.2.2.2.2; omega) nA.out.2.2.2.1 _).mono ?_
      rintro e q0 ⟨rfl, hq0⟩
      have lq1 := cellLt9 x0
      have lqv := cellLt9 vr0
      replace f2 := (hq0.frozen (p := ⟨g1, 2, none⟩) lq1).trans f2
      replace z0 := (hq0.frozen (p := ⟨gv, 0, none⟩) lqv).trans z0
      replace z1 := (hq0.frozen (p := ⟨gv, 1, none⟩) lqv).trans z1
      replace z2 := (hq0.frozen (p := ⟨gv, 2, none⟩) lqv).trans z2
      replace z3 := (hq0.frozen (p := ⟨gv, 3, none⟩) lqv).trans z3
      replace z4 := (hq0.frozen (p := ⟨gv, 4, none⟩) lqv).trans z4
      replace z5 := (hq0.frozen (p := ⟨gv, 5, none⟩) lqv).trans z5
      replace x0 := cellB9 hq0 x0
      replace x1 := cellB9 hq0 x1
      replace x2 := cellB9 hq0 x2
      replace vr0 := cellB9 hq0 vr0
      replace vr1 := cellB9 hq0 vr1
      replace vr2 := cellB9 hq0 vr2
      replace vr3 := cellB9 hq0 vr3
      replace vr4 := cellB9 hq0 vr4
      replace vr5 := cellB9 hq0 vr5
      replace bw := bw.trans (hq0.mono bw.size)
      clear lq1 lqv hq0
      replace nk : w.heap.size ≤ q0.heap.size := bw.size
      go_wp2_with fail
      replace x0 : (q0.setCell ⟨gv, 0, none⟩ (.int .u64 (numN A : Nat))).cell? ⟨g1, 0, none⟩ = _ := setO (by omega) x0
      replace x1 : (q0.setCell ⟨gv, 0, none⟩ (.int .u64 (numN A : Nat))).cell? ⟨g1, 1, none⟩ = _ := setO (by omega) x1
      replace x2 : (q0.setCell ⟨gv, 0, none⟩ (.int .u64 (numN A : Nat))).cell? ⟨g1, 2, none⟩ = _ := setO (by omega) x2
      replace vr0 : (q0.setCell ⟨gv, 0, none⟩ (.int .u64 (numN A : Nat))).cell? ⟨gv, 0, none⟩ = _ := setS vr0
      replace vr1 : (q0.setCell ⟨gv, 0, none⟩ (.int .u64 (numN A : Nat))).cell? ⟨gv, 1, none⟩ = _ := setO (by omega) vr1
      replace vr2 : (q0.setCell ⟨gv, 0, none⟩ (.int .u64 (numN A : Nat))).cell? ⟨gv, 2, none⟩ = _ := setO (by omega) vr2
      replace vr3 : (q0.setCell ⟨gv, 0, none⟩ (.int .u64 (numN A : Nat))).cell? ⟨gv, 3, none⟩ = _ := setO (by omega) vr3
      replace vr4 : (q0.setCell ⟨gv, 0, none⟩ (.int .u64 (numN A : Nat))).cell? ⟨gv, 4, none⟩ = _ := setO (by omega) vr4
      replace vr5 : (q0.setCell ⟨gv, 0, none⟩ (.int .u64 (numN A : Nat))).cell? ⟨gv, 5, none⟩ = _ := setO (by omega) vr5
      replace f2 : (q0.setCell ⟨gv, 0, none⟩ (.int .u64 (numN A : Nat))).frozen? ⟨g1, 2, none⟩ = false := by rw [World.frozen?_setCell]; exact f2
      replace z0 : (q0.setCell ⟨gv, 0, none⟩ (.int .u64 (numN A : Nat))).frozen? ⟨gv, 0, none⟩ = false := by rw [World.frozen?_setCell]; exact z0
      replace z1 : (q0.setCell ⟨gv, 0, none⟩ (.int .u64 (numN A : Nat))).frozen? ⟨gv, 1, none⟩ = false := by rw [World.frozen?_setCell]; exact z1
      replace z2 : (q0.setCell ⟨gv, 0, none⟩ (.int .u64 (numN A : Nat))).frozen? ⟨gv, 2, none⟩ = false := by rw [World.frozen?_setCell]; exact z2
      replace z3 : (q0.setCell ⟨gv, 0, none⟩ (.int .u64 (numN A : Nat))).frozen? ⟨gv, 3, none⟩ = false := by rw [World.frozen?_setCell]; exact z3
      replace z4 : (q0.setCell ⟨gv, 0, none⟩ (.int .u64 (numN A : Nat))).frozen? ⟨gv, 4, none⟩ = false := by rw [World.frozen?_setCell]; exact z4
      replace z5 : (q0.setCell ⟨gv, 0, none⟩ (.int .u64 (numN A : Nat))).frozen? ⟨gv, 5, none⟩ = false := by rw [World.frozen?_setCell]; exact z5
      replace bw : Below w.heap.size w (q0.setCell ⟨gv, 0, none⟩ (.int .u64 (numN A : Nat))) := Below.setCell bw (by show w.heap.size ≤ gv; omega) _
      show Calls _ _ _ (q0.setCell ⟨gv, 0, none⟩ (.int .u64 (numN A : Nat))) _
      generalize (q0.setCell ⟨gv, 0, none⟩ (.int .u64 (numN A : Nat))) = Q0 at *
      replace nk : w.heap.size ≤ Q0.heap.size := bw.size
      clear q0
      refine (parse_ok B (by have := nB.out.2.2.2.2; omega) nB.out.2.2.2.1 _).mono ?_
      rintro e q1 ⟨rfl, hq1⟩
      have lq1 := cellLt9 x0
      have lqv := cellLt9 vr0
      replace f2 := (hq1.frozen (p := ⟨g1, 2, none⟩) lq1).trans f2
      replace z0 := (hq1.frozen (p := ⟨gv, 0, none⟩) lqv).trans z0
      replace z1 := (hq1.frozen (p := ⟨gv, 1, none⟩) lqv).trans z1
      replace z2 := (hq1.frozen (p := ⟨gv, 2, none⟩) lqv).trans z2
      replace z3 := (hq1.frozen (p := ⟨gv, 3, none⟩) lqv).trans z3
      replace z4 := (hq1.frozen (p := ⟨gv, 4, none⟩) lqv).trans z4
      replace z5 := (hq1.frozen (p := ⟨gv, 5, none⟩) lqv).trans z5
      replace x0 := cellB9 hq1 x0
      replace x1 := cellB9 hq1 x1
      replace x2 := cellB9 hq1 x2
      replace vr0 := cellB9 hq1 vr0
      replace vr1 := cellB9 hq1 vr1
      replace vr2 := cellB9 hq1 vr2
      replace vr3 := cellB9 hq1 vr3
      replace vr4 := cellB9 hq1 vr4
      replace vr5 := cellB9 hq1 vr5
      replace bw := bw.trans (hq1.mono bw.size)
      clear lq1 lqv hq1
      replace nk : w.heap.size ≤ q1.heap.size := bw.size
      go_wp2_with fail
      replace x0 : (q1.setCell ⟨gv, 1, none⟩ (.int .u64 (numN B : Nat))).cell? ⟨g1, 0, none⟩ = _ := setO (by omega) x0
      replace x1 : (q1.setCell ⟨gv, 1, none⟩ (.int .u64 (numN B : Nat))).cell? ⟨g1, 1, none⟩ = _ := setO (by omega) x1
      replace x2 : (q1.setCell ⟨gv, 1, none⟩ (.int .u64 (numN B : Nat))).cell? ⟨g1, 2, none⟩ = _ := setO (by omega) x2
      replace vr0 : (q1.setCell ⟨gv, 1, none⟩ (.int .u64 (numN B : Nat))).cell? ⟨gv, 0, none⟩ = _ := setO (by omega) vr0
      replace vr1 : (q1.setCell ⟨gv, 1, none⟩ (.int .u64 (numN B : Nat))).cell? ⟨gv, 1, none⟩ = _ := setS vr1
      replace vr2 : (q1.setCell ⟨gv, 1, none⟩ (.int .u64 (numN B : Nat))).cell? ⟨gv, 2, none⟩ = _ := setO (by omega) vr2
      replace vr3 : (q1.setCell ⟨gv, 1, none⟩ (.int .u64 (numN B : Nat))).cell? ⟨gv, 3, none⟩ = _ := setO (by omega) vr3
      replace vr4 : (q1.setCell ⟨gv, 1, none⟩ (.int .u64 (numN B : Nat))).cell? ⟨gv, 4, none⟩ = _ := setO (by omega) vr4
      replace vr5 : (q1.setCell ⟨gv, 1, none⟩ (.int .u64 (numN B : Nat))).cell? ⟨gv, 5, none⟩ = _ := setO (by omega) vr5
      replace f2 : (q1.setCell ⟨gv, 1, none⟩ (.int .u64 (numN B : Nat))).frozen? ⟨g1, 2, none⟩ = false := by rw [World.frozen?_setCell]; exact f2
      replace z0 : (q1.setCell ⟨gv, 1, none⟩ (.int .u64 (numN B : Nat))).frozen? ⟨gv, 0, none⟩ = false := by rw [World.frozen?_setCell]; exact z0
      replace z1 : (q1.setCell ⟨gv, 1, none⟩ (.int .u64 (numN B : Nat))).frozen? ⟨gv, 1, none⟩ = false := by rw [World.frozen?_setCell]; exact z1
      replace z2 : (q1.setCell ⟨gv, 1, none⟩ (.int .u64 (numN B : Nat))).frozen? ⟨gv, 2, none⟩ = false := by rw [World.frozen?_setCell]; exact z2
      replace z3 : (q1.setCell ⟨gv, 1, none⟩ (.int .u64 (numN B : Nat))).frozen? ⟨gv, 3, none⟩ = false := by rw [World.frozen?_setCell]; exact z3
      replace z4 : (q1.setCell ⟨gv, 1, none⟩ (.int .u64 (numN B : Nat))).frozen? ⟨gv, 4, none⟩ = false := by rw [World.frozen?_setCell]; exact z4
      replace z5 : (q1.setCell ⟨gv, 1, none⟩ (.int .u64 (numN B : Nat))).frozen? ⟨gv, 5, none⟩ = false := by rw [World.frozen?_setCell]; exact z5
      replace bw : Below w.heap.size w (q1.setCell ⟨gv, 1, none⟩ (.int .u64 (numN B : Nat))) := Below.setCell bw (by show w.heap.size ≤ gv; omega) _
      show Calls _ _ _ (q1.setCell ⟨gv, 1, none⟩ (.int .u64 (numN B : Nat))) _
      generalize (q1.setCell ⟨gv, 1, none⟩ (.int .u64 (numN B : Nat))) = Q1 at *
      replace nk : w.heap.size ≤ Q1.heap.size := bw.size
      clear q1
      refine (parse_ok C (by have := nC.out.2.2.2.2; omega) nC.out.2.2.2.1 _).mono ?_
      rintro e q2 ⟨rfl, hq2⟩
      have lq1 := cellLt9 x0
      have lqv := cellLt9 vr0
      replace f2 := (hq2.frozen (p := ⟨g1, 2, none⟩) lq1).trans f2
      replace z0 := (hq2.frozen (p := ⟨gv, 0, none⟩) lqv).trans z0
      replace z1 := (hq2.frozen (p := ⟨gv, 1, none⟩) lqv).trans z1
      replace z2 := (hq2.frozen (p := ⟨gv, 2, none⟩) lqv).trans z2
      replace z3 := (hq2.frozen (p := ⟨gv, 3, none⟩) lqv).trans z3
      replace z4 := (hq2.frozen (p := ⟨gv, 4, none⟩) lqv).trans z4
      replace z5 := (hq2.frozen (p := ⟨gv, 5, none⟩) lqv).trans z5
      replace x0 := cellB9 hq2 x0
      replace x1 := cellB9 hq2 x1
      replace x2 := cellB9 hq2 x2
      replace vr0 := cellB9 hq2 vr0
      replace vr1 := cellB9 hq2 vr1
      replace vr2 := cellB9 hq2 vr2
      replace vr3 := cellB9 hq2 vr3
      replace vr4 := cellB9 hq2 vr4
      replace vr5 := cellB9 hq2 vr5
      replace bw := bw.trans (hq2.mono bw.size)
      clear lq1 lqv hq2
      replace nk : w.heap.size ≤ q2.heap.size := bw.size
      go_wp2_with fail
      refine bodyPost_ret (v := .tuple #[.pointer (some ⟨gv, 0, none⟩), .nilIface]) (by simp [results, Tryd.results13, go_sem]) rfl ⟨gv, rfl, ⟨setO (by omega) vr0, setO (by omega) vr1, setS vr2, setO (by omega) vr3, setO (by omega) vr4, setO (by omega) vr5⟩, Below.setCell bw (by show w.heap.size ≤ gv; omega) _⟩

end Go.Proofs.YtbipmpojmfbekaaDoor
