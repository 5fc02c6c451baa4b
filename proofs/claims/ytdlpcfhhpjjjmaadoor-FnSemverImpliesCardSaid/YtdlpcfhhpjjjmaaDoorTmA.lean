/- impl.terms: the terms of lists of lists. semver.ZZConstraints: constraints out of lists of lists of terms. Constraints.Check over constraints whose checks are known. impl.TermsHold: what lists of terms say of a version, over terms whose checks are known. -/
import Derived.Test.YtdlpcfhhpjjjmaaDoorTermHolds
import Derived.Test.YtdlpcfhhpjjjmaaDoorSl
import Derived.WalkSmall
import Derived.Maps.AppendAt
namespace Go.Proofs.YtdlpcfhhpjjjmaaDoor
open Go.RowKit
set_option linter.unusedVariables false
set_option linter.unusedSimpArgs false

/-- A term: operator, how many numbers are given, the numbers, the prerelease. -/
abbrev Tm := Int × Int × Int × Int × Int × ByteArray
def opS (o : Int) : ByteArray := if o = 0 then ⟨#[61]⟩ else if o = 1 then ⟨#[33, 61]⟩ else if o = 2 then ⟨#[62]⟩ else if o = 3 then ⟨#[60]⟩ else if o = 4 then ⟨#[62, 61]⟩ else if o = 5 then ⟨#[60, 61]⟩ else if o = 6 then ⟨#[126]⟩ else ⟨#[94]⟩
theorem opS_is (o : Int) (h : 0 ≤ o ∧ o ≤ 7) : OpIs o (opS o) := by
  have : o = 0 ∨ o = 1 ∨ o = 2 ∨ o = 3 ∨ o = 4 ∨ o = 5 ∨ o = 6 ∨ o = 7 := by omega
  rcases this with rfl | rfl | rfl | rfl | rfl | rfl | rfl | rfl <;>
    (intro W; go_enter Tryd.func99, Tryd.ntmps99; go_wp2; go_ret; exact ⟨rfl, rfl⟩)
def TmIn (t : Tm) : Prop := (0 ≤ t.1 ∧ t.1 ≤ 7) ∧ (0 ≤ t.2.1 ∧ t.2.1 ≤ 3)

/-- A term as impl holds it; as the package's inner data; lists of them. -/
def RTm (_ : World) (us : List Value) (t : Tm) : Prop := us = (termC t.1 t.2.1 t.2.2.1 t.2.2.2.1 t.2.2.2.2.1 t.2.2.2.2.2).toList
def RTms (w : World) (us : List Value) (l : List Tm) : Prop := ∃ u, us = [u] ∧ SlOf RTm 6 w u l
def RZz (J : Nat → Prop) (w : World) (us : List Value) (t : Tm) : Prop := ∃ k, J k ∧ us = (zzC (opS t.1) k (decide (t.2.1 ≠ 3)) (decide (t.2.1 = 1)) (decide (t.2.1 = 2))).toList ∧ VerAt w k (verC t.2.2.1 t.2.2.2.1 t.2.2.2.2.1 t.2.2.2.2.2 ⟨#[]⟩ ⟨#[]⟩)
def RZzs (J : Nat → Prop) (B : Nat) (w : World) (us : List Value) (l : List Tm) : Prop := ∃ u, us = [u] ∧ OwnOf (RZz J) 5 B 77 w u l
theorem RTm.mono : Mono RTm := fun _ _ _ _ _ h => h
theorem RTms.mono : Mono RTms := fun _ _ _ _ hb ⟨u, e, h⟩ => ⟨u, e, h.below RTm.mono hb⟩
theorem RZz.stab {J : Nat → Prop} {e : TypeId} (he : 90 ≠ e) : Stab e (RZz J) := fun w w' us t hx ⟨k, hj, e', h⟩ => ⟨k, hj, e', hx k _ _ _ h he⟩
theorem RZzs.stab {J : Nat → Prop} {B : Nat} {e : TypeId} (he : 90 ≠ e) (hz : 77 ≠ e) : Stab e (RZzs J B) := fun w w' us t hx ⟨u, e', h⟩ => ⟨u, e', h.exc hz (RZz.stab he) hx⟩

theorem Tryd.infoZz : (Tryd.prog.info? 77).map (fun i => (i.zero, i.size, i.bytes)) = some (some (.agg #[.string ByteArray.empty, .pointer none, .bool false, .bool false, .bool false]), 5, 32) := by kernel_rfl
theorem Tryd.infoZzs : (Tryd.prog.info? 105).map (fun i => (i.zero, i.size, i.bytes)) = some (some (.slice none 0 0), 1, 24) := by kernel_rfl

set_option maxRecDepth 100000 in
set_option maxHeartbeats 4000000 in
theorem terms_any (c : List (List Tm)) (v : Value) (w : World) (hc : Hid (SlOf RTms 1 w v c)) (hn : c.length ≤ 1000) (hln : Hid (∀ l ∈ c, l.length ≤ 1000 ∧ ∀ t ∈ l, TmIn t)) :
    Calls Tryd.prog 82 #[v] w fun e w' => ∃ u, e = .returned u ∧ OwnOf (RZzs (w.heap.size ≤ ·) w.heap.size) 1 w.heap.size 105 w' u c ∧ Below w.heap.size w w' := by
  obtain ⟨i0, hi, hz0, hz1, hz2⟩ := info_parts Tryd.infoZz
  obtain ⟨j0, gi, gz0, gz1, gz2⟩ := info_parts Tryd.infoZzs
  obtain ⟨ao, cap, rfl, hx⟩ := hc.out
  have HX := Lib.hid hx
  clear hx hc
  go_enter Tryd.func82, Tryd.ntmps82
  go_wp2_with fail
  go_loopw [3, 11] (fun v i wr => ∃ k : Nat, k ≤ c.length ∧ i = .int .i64 k ∧ OwnOf (RZzs (w.heap.size ≤ ·) w.heap.size) 1 w.heap.size 105 wr v (c.take k) ∧ Below w.heap.size w wr) (fun _ i _ => c.length - (intOf i).toNat)
  case atStart => exact ⟨0, Nat.zero_le _, rfl, OwnOf.nil _ _ _ _ _, Below.refl _ _⟩
  case round =>
    obtain ⟨k, hk, rfl, hown, hb⟩ := hrel
    by_cases hkL : k < c.length
    · obtain ⟨l, hl⟩ : ∃ l, c[k]? = some l := ⟨c[k], List.getElem?_eq_getElem hkL⟩
      obtain ⟨ab, aoff, us, rfl, hz, hcell, u, rfl, hu⟩ := HX.out k l hl
      have c0 := cellBS hb (hcell 0 u rfl)
      obtain ⟨ao2, cap2, rfl, hx2⟩ := hu
      have HX2 := Lib.hid hx2
      have HL := Lib.hid hl
      clear hx2 hcell hl
      simp only [Nat.mul_one, Nat.add_zero] at c0
      go_wp2_with fail
      go_loopw [6, 17] (fun v i wi => ∃ m : Nat, m ≤ l.length ∧ i = .int .i64 m ∧ OwnOf (RZz (w.heap.size ≤ ·)) 5 wr.heap.size 77 wi v (l.take m) ∧ Below wr.heap.size wr wi) (fun _ i _ => l.length - (intOf i).toNat)
      case atStart => exact ⟨0, Nat.zero_le _, rfl, OwnOf.nil _ _ _ _ _, Below.refl _ _⟩
      case round =>
        obtain ⟨m, hm, rfl, hin, hbi⟩ := hrel
        have bw := (hb.trans (hbi.mono hb.size))
        by_cases hmL : m < l.length
        · obtain ⟨t, ht⟩ : ∃ t, l[m]? = some t := ⟨l[m], List.getElem?_eq_getElem hmL⟩
          obtain ⟨ab2, aoff2, us2, rfl, hz2', hcell2, hu2⟩ := HX2.out m t ht
          have HT := Lib.hid ht
          clear ht hz2'
          obtain ⟨o, g, a, b, d, p⟩ := t
          unfold RTm at hu2
          subst hu2
          have c0 := cellBS bw (hcell2 0 _ rfl)
          have c1 := cellBS bw (hcell2 1 _ rfl)
          have c2 := cellBS bw (hcell2 2 _ rfl)
          have c3 := cellBS bw (hcell2 3 _ rfl)
          have c4 := cellBS bw (hcell2 4 _ rfl)
          have c5 := cellBS bw (hcell2 5 _ rfl)
          simp only [Nat.add_zero] at c0
          clear hcell2
          go_wp2_with fail
          obtain ⟨dy, hdy⟩ : ∃ dy, Hid (dy = decide (g ≠ 3)) := ⟨_, rfl⟩
          obtain ⟨md, hmd⟩ : ∃ md, Hid (md = decide (g = 1)) := ⟨_, rfl⟩
          obtain ⟨pd, hpd⟩ : ∃ pd, Hid (pd = decide (g = 2)) := ⟨_, rfl⟩
          have hin0 := (hln.out l (List.mem_of_getElem? HL.out)).2 _ (List.mem_of_getElem? HT.out)
          have hlL := (hln.out l (List.mem_of_getElem? HL.out)).1
          refine (termS_any o g a b d p hin0.2 dy md pd ⟨hdy.out, hmd.out, hpd.out⟩ (opS o) (opS_is o hin0.1) _).mono ?_
          rintro e w1 ⟨kb, rfl, hv, hkb, hb1⟩
          have bA := ((Below.refl _ _).alloc (Nat.le_refl _) _).trans (hb1.mono (by simp))
          have bB := bA.alloc bA.size (.cells (zzC (opS o) kb dy md pd) 77)
          obtain ⟨cs, hcl, hcz, hown2, hR⟩ := hin.below (RZz.stab (e := 0) (by decide)).mono bB
          go_wp2_with (at_builtin; refine stop_here ?_)
          unfold Stop
          rw [List.length_take_of_le hm] at hown2 hcl
          refine wpList_append_own _ rfl _ _ 105 rfl _ 77 i0 (.agg #[.string ByteArray.empty, .pointer none, .bool false, .bool false, .bool false]) 5 32 Tryd.underlying105 hi hz0 hz1 hz2 rfl (by decide) _ _ _ rfl hown2 ⟨w1.heap.size, 0, none⟩ 1 1 (zzC (opS o) kb dy md pd).toList rfl rfl (cells_new _ _ _) ?_ ?_ ?_ ?_ ?_
          · intro u hu; simp at hu; rcases hu with rfl | rfl | rfl | rfl | rfl <;> rfl
          · unfold maxLen; omega
          · omega
          · exact Nat.le_trans hbi.size bB.size
          intro v' w2 hown3 hgrow _
          have hp := OwnOf.push (RZz.stab (e := 77) (by decide)) (x := (o, g, a, b, d, p)) (List.length_take_of_le hm) hcl hcz hown2 hR hgrow hown3 rfl ⟨kb, Nat.le_trans bw.size (Nat.le_trans (by simp) hkb), by show _ = _; rw [← hdy.out, ← hmd.out, ← hpd.out], (Below.heap_alloc _ _ _ hv.lt).trans hv⟩
          rw [← take_snoc l m _ HT.out] at hp
          have b2 := Below.grown (hbi.trans (bB.mono hbi.size)) hgrow (by have := hbi.size; have := bB.size; omega) (fun k hk => (hown2.lt k hk).1)
          clear hgrow hown3 hown2 hR hcz hcl hin bA bB
          go_wp2_with fail
          go_roundw
          case rel => exact ⟨m + 1, by omega, by go_num, hp, b2⟩
          case measure => simp [intOf]; omega
        · obtain rfl : m = l.length := by omega
          rw [List.take_length] at hin
          have hin2 := hin.base hb.size
          obtain ⟨ao6, cap6, rfl⟩ := hin2.sl.len
          have HI := Lib.hid hin2
          have hown0 := hown.below (RZzs.stab (J := (w.heap.size ≤ ·)) (B := w.heap.size) (e := 0) (by decide) (by decide)).mono hbi
          obtain ⟨cs, hcl, hcz, hown2, hR⟩ := hown0
          have hown2 := hown2.alloc (.cells #[.slice ao6 l.length cap6] 105)
          rw [List.length_take_of_le hk] at hown2 hcl
          clear hin hin2
          go_wp2_with (at_builtin; refine stop_here ?_)
          unfold Stop
          refine wpList_append_own _ rfl _ _ 87 rfl _ 105 j0 (.slice none 0 0) 1 24 Tryd.underlying87 gi gz0 gz1 gz2 rfl (by decide) _ _ _ rfl hown2 ⟨wr.heap.size, 0, none⟩ 1 1 [.slice ao6 l.length cap6] rfl rfl (cells_new _ #[.slice ao6 l.length cap6] _) ?_ ?_ ?_ ?_ ?_
          · intro u hu; simp at hu; subst hu; rfl
          · unfold maxLen; omega
          · omega
          · exact Nat.le_trans (Nat.le_trans hb.size hbi.size) (by simp)
          intro v' w2 hown3 hgrow _
          have hbA := (Below.refl wr.heap.size wr).alloc (Nat.le_refl _) (.cells #[.slice ao6 l.length cap6] 105)
          have hp := OwnOf.push (RZzs.stab (J := (w.heap.size ≤ ·)) (B := w.heap.size) (e := 105) (by decide) (by decide)) (List.length_take_of_le hk) hcl hcz hown2 (fun i x us h1 h2 => (RZzs.stab (J := (w.heap.size ≤ ·)) (B := w.heap.size) (e := 0) (by decide) (by decide)).mono _ _ _ _ hbA (hR i x us h1 h2)) hgrow hown3 rfl ⟨_, rfl, HI.out.below (RZz.stab (e := 0) (by decide)).mono hbA⟩
          rw [← take_snoc c k _ HL.out] at hp
          have b2 := Below.grown (bw.alloc bw.size _) hgrow (Nat.le_trans bw.size (by simp)) (fun k hk => (hown2.lt k hk).1)
          clear hgrow hown3 hown2 hR hcz hcl hown
          go_wp2_with fail
          go_roundw
          case rel => exact ⟨k + 1, by omega, by go_num, hp, b2⟩
          case measure => simp [intOf]; omega
    · go_wp2_with fail
      go_ret
      rw [List.take_of_length_le (by omega)] at hown
      exact ⟨_, rfl, hown, hb⟩
end Go.Proofs.YtdlpcfhhpjjjmaaDoor

namespace Go.Proofs.YtdlpcfhhpjjjmaaDoor
open Go.RowKit
set_option linter.unusedVariables false
set_option linter.unusedSimpArgs false

def hasP (t : Tm) : Bool := !t.2.2.2.2.2.toList.isEmpty
def hasPre (l : List Tm) : Bool := l.any hasP

/-- Inner terms to be read; constraints behind pointers; lists of them; Bools. -/
def RZzr (J : Nat → Prop) (w : World) (us : List Value) (l : List Tm) : Prop := ∃ u, us = [u] ∧ SlOf (RZz J) 5 w u l
def RCon (J : Nat → Prop) (w : World) (us : List Value) (t : Tm) : Prop := ∃ k j, J j ∧ us = [.pointer (some ⟨k, 0, none⟩)] ∧ ConAt w k (conC (opS t.1) j (decide (t.2.1 ≠ 3)) (decide (t.2.1 = 1)) (decide (t.2.1 = 2))) ∧ VerAt w j (verC t.2.2.1 t.2.2.2.1 t.2.2.2.2.1 t.2.2.2.2.2 ⟨#[]⟩ ⟨#[]⟩)
def RCons (J : Nat → Prop) (B : Nat) (w : World) (us : List Value) (l : List Tm) : Prop := ∃ u, us = [u] ∧ OwnOf (RCon J) 1 B 98 w u l
def RBool (_ : World) (us : List Value) (b : Bool) : Prop := us = [.bool b]
theorem RZzr.mono {J : Nat → Prop} : Mono (RZzr J) := fun _ _ _ _ hb ⟨u, e, h⟩ => ⟨u, e, h.below (RZz.stab (e := 0) (by decide)).mono hb⟩
theorem RCon.stab {J : Nat → Prop} {e : TypeId} (he : 90 ≠ e) (hc : 112 ≠ e) : Stab e (RCon J) := fun w w' us t hx ⟨k, j, hj, e', h, h2⟩ => ⟨k, j, hj, e', hx k _ _ _ h hc, hx j _ _ _ h2 he⟩
theorem RCons.stab {J : Nat → Prop} {B : Nat} {e : TypeId} (he : 90 ≠ e) (hc : 112 ≠ e) (hp : 98 ≠ e) : Stab e (RCons J B) := fun w w' us t hx ⟨u, e', h⟩ => ⟨u, e', h.exc hp (RCon.stab he hc) hx⟩
theorem RBool.stab {e : TypeId} : Stab e RBool := fun _ _ _ _ _ h => h

theorem Tryd.infoPc : (Tryd.prog.info? 98).map (fun i => (i.zero, i.size, i.bytes)) = some (some (.pointer none), 1, 8) := by kernel_rfl
theorem Tryd.infoPcs : (Tryd.prog.info? 106).map (fun i => (i.zero, i.size, i.bytes)) = some (some (.slice none 0 0), 1, 24) := by kernel_rfl
theorem Tryd.infoBl : (Tryd.prog.info? 4).map (fun i => (i.zero, i.size, i.bytes)) = some (some (.bool false), 1, 1) := by kernel_rfl

/-- The constraints' own variable. -/
def CsAt (w : World) (g : Nat) (v1 v2 : Value) (b : Bool) : Prop := w.heap[g]? = some (.cells #[v1, v2, .bool b] 85 (0, 0))
theorem csAt_new (W : World) (g : Nat) (v1 v2 : Value) (b : Bool) (hg : g = W.heap.size) : CsAt (W.alloc (.cells #[v1, v2, .bool b] 85)) g v1 v2 b := by subst hg; exact heap_alloc_new W _
theorem CsAt.lt {w : World} {g : Nat} {v1 v2 : Value} {b : Bool} (h : CsAt w g v1 v2 b) : g < w.heap.size := (Array.getElem?_eq_some_iff.1 h).1
theorem CsAt.cell {w : World} {g : Nat} {v1 v2 : Value} {b : Bool} (h : CsAt w g v1 v2 b) (i : Nat) : w.cell? ⟨g, i, none⟩ = #[v1, v2, .bool b][i]? := cell_of_row w g i _ _ (0, 0) h
theorem CsAt.free {w : World} {g : Nat} {v1 v2 : Value} {b : Bool} (h : CsAt w g v1 v2 b) (i : Nat) : w.frozen? ⟨g, i, none⟩ = false := frozen_of_row w g i _ _ h
theorem CsAt.set1 {w : World} {g : Nat} {v1 v2 : Value} {b : Bool} (h : CsAt w g v1 v2 b) (u : Value) : CsAt (w.setCell ⟨g, 0, none⟩ u) g u v2 b := heap_setCell_same w g 0 _ _ u h
theorem CsAt.set3 {w : World} {g : Nat} {v1 v2 : Value} {b : Bool} (h : CsAt w g v1 v2 b) (c : Bool) : CsAt (w.setCell ⟨g, 2, none⟩ (.bool c)) g v1 v2 c := heap_setCell_same w g 2 _ _ _ h
theorem CsAt.set2 {w : World} {g : Nat} {v1 v2 : Value} {b : Bool} (h : CsAt w g v1 v2 b) (u : Value) : CsAt (w.setCell ⟨g, 1, none⟩ u) g v1 u b := heap_setCell_same w g 1 _ _ u h

set_option maxRecDepth 100000 in
set_option maxHeartbeats 4000000 in
theorem zzCons_any (J : Nat → Prop) (c : List (List Tm)) (v : Value) (inc : Bool) (w : World) (hc : Hid (SlOf (RZzr J) 1 w v c)) (hn : c.length ≤ 1000) (hln : Hid (∀ l ∈ c, l.length ≤ 1000)) :
    Calls Tryd.prog 81 #[v, .bool inc] w fun e w' => ∃ v1 v2, e = .returned (.agg #[v1, v2, .bool inc]) ∧ OwnOf (RCons J w.heap.size) 1 w.heap.size 106 w' v1 c ∧ OwnOf RBool 1 w.heap.size 4 w' v2 (c.map hasPre) ∧ Below w.heap.size w w' := by
  obtain ⟨i0, hi, hz0, hz1, hz2⟩ := info_parts Tryd.infoPc
  obtain ⟨j0, gi, gz0, gz1, gz2⟩ := info_parts Tryd.infoPcs
  obtain ⟨m0, bi, bz0, bz1, bz2⟩ := info_parts Tryd.infoBl
  obtain ⟨ao, cap, rfl, hx⟩ := hc.out
  have HX := Lib.hid hx
  clear hx hc
  go_enter Tryd.func81, Tryd.ntmps81
  go_wp2_with fail
  go_loopw [16] (fun i wr => ∃ (k : Nat) (v1 v2 : Value), k ≤ c.length ∧ i = .int .i64 k ∧ CsAt wr (w.heap.size + 1) v1 v2 inc ∧ CsAt wr w.heap.size (.slice none 0 0) (.slice none 0 0) false ∧ OwnOf (RCons J w.heap.size) 1 w.heap.size 106 wr v1 (c.take k) ∧ OwnOf RBool 1 w.heap.size 4 wr v2 ((c.take k).map hasPre) ∧ w.heap.size + 2 ≤ wr.heap.size ∧ Below w.heap.size w wr) (fun i _ => c.length - (intOf i).toNat)
  case atStart =>
    refine ⟨0, _, _, Nat.zero_le _, rfl, csAt_new _ _ _ _ _ (by simp), (Below.heap_alloc _ _ _ (by simp)).trans (csAt_new w _ _ _ _ rfl), OwnOf.nil _ _ _ _ _, OwnOf.nil _ _ _ _ _, by simp, ((Below.refl _ _).alloc (Nat.le_refl _) _).alloc (by simp) _⟩
  case round =>
    obtain ⟨k, v1, v2, hk, rfl, hcs, hcr, hown, hownb, hsz, hb⟩ := hrel
    by_cases hkL : k < c.length
    · obtain ⟨l, hl⟩ : ∃ l, c[k]? = some l := ⟨c[k], List.getElem?_eq_getElem hkL⟩
      obtain ⟨ab, aoff, us, rfl, hz, hcell, u, rfl, hu⟩ := HX.out k l hl
      have c0 := cellBS hb (hcell 0 u rfl)
      obtain ⟨ao2, cap2, rfl, hx2⟩ := hu
      have HX2 := Lib.hid hx2
      have HL := Lib.hid hl
      clear hx2 hcell hl
      simp only [Nat.mul_one, Nat.add_zero] at c0
      go_wp2_with fail
      go_loopw [8, 9, 22] (fun v pv i wi => ∃ m : Nat, m ≤ l.length ∧ i = .int .i64 m ∧ pv = .bool (hasPre (l.take m)) ∧ OwnOf (RCon J) 1 wr.heap.size 98 wi v (l.take m) ∧ Below wr.heap.size wr wi) (fun _ _ i _ => l.length - (intOf i).toNat)
      case atStart => exact ⟨0, Nat.zero_le _, rfl, rfl, OwnOf.nil _ _ _ _ _, Below.refl _ _⟩
      case round =>
        obtain ⟨m, hm, rfl, rfl, hin, hbi⟩ := hrel
        have bw := (hb.trans (hbi.mono hb.size))
        obtain ⟨ph, HPH⟩ : ∃ ph, Hid (hasPre (l.take m) = ph) := ⟨_, rfl⟩
        rw [HPH.out]
        by_cases hmL : m < l.length
        · obtain ⟨t, ht⟩ : ∃ t, l[m]? = some t := ⟨l[m], List.getElem?_eq_getElem hmL⟩
          obtain ⟨ab2, aoff2, us2, rfl, hz2', hcell2, kb, hJ, hu2, hv⟩ := HX2.out m t ht
          have HT := Lib.hid ht
          clear ht hz2'
          obtain ⟨o, g, a, b, d, p⟩ := t
          obtain ⟨dy, hdy⟩ : ∃ dy, Hid (dy = decide (g ≠ 3)) := ⟨_, rfl⟩
          obtain ⟨md, hmd⟩ : ∃ md, Hid (md = decide (g = 1)) := ⟨_, rfl⟩
          obtain ⟨pd, hpd⟩ : ∃ pd, Hid (pd = decide (g = 2)) := ⟨_, rfl⟩
          simp only [← hdy.out, ← hmd.out, ← hpd.out] at hu2
          subst hu2
          have c0 := cellBS bw (hcell2 0 _ rfl)
          have c1 := cellBS bw (hcell2 1 _ rfl)
          have c2 := cellBS bw (hcell2 2 _ rfl)
          have c3 := cellBS bw (hcell2 3 _ rfl)
          have c4 := cellBS bw (hcell2 4 _ rfl)
          simp only [Nat.add_zero] at c0
          clear hcell2
          have hlL := hln.out l (List.mem_of_getElem? HL.out)
          have hv := hv.below bw
          go_wp2_with fail
          refine (inner_any _ _ _ _ _ _).mono ?_
          rintro e w1 ⟨rfl, hw⟩
          have K1 : ConAt w1 (wr.heap.size + 1 + 1) (conC (opS o) kb dy md pd) := by rw [hw]; exact conAt_new _ _ _ (by simp)
          have Z1 : w1.heap[wr.heap.size]? = some (.cells (zzC (opS o) kb dy md pd) 77 (0, 0)) := by
            rw [hw]; exact (Below.heap_alloc _ _ _ (by simp; omega)).trans ((Below.heap_alloc _ _ _ (by simp)).trans (heap_alloc_new wr _))
          have b1 : Below wr.heap.size wr w1 := by
            rw [hw]; exact (((Below.refl _ _).alloc (Nat.le_refl _) _).alloc (by simp) _).alloc (by simp; omega) _
          clear hw
          have bB := b1.alloc b1.size (.cells #[.pointer (some ⟨wr.heap.size + 1 + 1, 0, none⟩)] 98)
          obtain ⟨cs, hcl, hcz, hown2, hR⟩ := hin.below (RCon.stab (e := 0) (by decide) (by decide)).mono bB
          rw [List.length_take_of_le hm] at hown2 hcl
          go_wp2_with (at_builtin; refine stop_here ?_)
          unfold Stop
          refine wpList_append_own _ rfl _ _ 106 rfl _ 98 i0 (.pointer none) 1 8 Tryd.underlying106 hi hz0 hz1 hz2 rfl (by decide) _ _ _ rfl hown2 ⟨w1.heap.size, 0, none⟩ 1 1 [.pointer (some ⟨wr.heap.size + 1 + 1, 0, none⟩)] rfl rfl (cells_new _ #[.pointer (some ⟨wr.heap.size + 1 + 1, 0, none⟩)] _) ?_ ?_ ?_ ?_ ?_
          · intro u hu; simp at hu; subst hu; rfl
          · unfold maxLen; omega
          · omega
          · exact Nat.le_trans hbi.size bB.size
          intro v' w2 hown3 hgrow _
          have hE := Exc.ofGrown hown2 hgrow
          have hp := OwnOf.push (RCon.stab (J := J) (e := 98) (by decide) (by decide)) (x := (o, g, a, b, d, p)) (List.length_take_of_le hm) hcl hcz hown2 hR hgrow hown3 rfl ⟨_, kb, hJ, rfl, by
            have := (Below.heap_alloc w1 (.cells #[.pointer (some ⟨wr.heap.size + 1 + 1, 0, none⟩)] 98) _ K1.lt).trans K1
            simp only [← hdy.out, ← hmd.out, ← hpd.out]; exact this, hv.below bB⟩
          rw [← take_snoc l m _ HT.out] at hp
          have b2 := Below.grown (hbi.trans (bB.mono hbi.size)) hgrow (Nat.le_trans hbi.size bB.size) (fun k hk => (hown2.lt k hk).1)
          have z1 : w2.cell? ⟨wr.heap.size, 1, none⟩ = some (.pointer (some ⟨kb, 0, none⟩)) :=
            cell_of_row w2 _ 1 _ _ (0, 0) (hE _ _ _ _ ((Below.heap_alloc _ _ _ (Array.getElem?_eq_some_iff.1 Z1).1).trans Z1) (by decide))
          have z2 : w2.cell? ⟨kb, 3, none⟩ = some (.string p) := cell_of_row w2 _ 3 _ _ (0, 0) (hE _ _ _ _ (hv.below bB) (by decide))
          clear hgrow hown3 hown2 hR hcz hcl hin bB hE K1 Z1 b1 hv
          have hq : Hid (hasPre (l.take (m + 1)) = (ph || !p.toList.isEmpty)) := by
            show _ = _
            rw [take_snoc l m _ HT.out, ← HPH.out]; unfold hasPre; rw [List.any_append]; simp [hasP]
          obtain ⟨pe, hpe⟩ : ∃ pe, p.toList.isEmpty = pe := ⟨_, rfl⟩
          cases pe with
          | true =>
            have hq2 : Hid (hasPre (l.take (m + 1)) = ph) := by show _ = _; rw [hq.out, hpe]; simp
            go_wp2_with fail
            go_roundw
            case rel => exact ⟨m + 1, by omega, by go_num, by rw [hq2.out], hp, b2⟩
            case measure => simp [intOf]; omega
          | false =>
            have hq2 : Hid (hasPre (l.take (m + 1)) = true) := by show _ = _; rw [hq.out, hpe]; simp
            go_wp2_with fail
            go_roundw
            case rel => exact ⟨m + 1, by omega, by go_num, by rw [hq2.out], hp, b2⟩
            case measure => simp [intOf]; omega
        · obtain rfl : m = l.length := by omega
          rw [List.take_length] at hin HPH
          obtain ⟨ao6, cap6, rfl⟩ := hin.sl.len
          have HI := Lib.hid (hin.base (B' := w.heap.size) hb.size)
          have hcs1 : CsAt _ _ v1 v2 inc := (hbi.block _ hcs.lt).trans hcs
          have hcr1 : CsAt _ _ (.slice none 0 0) (.slice none 0 0) false := (hbi.block _ hcr.lt).trans hcr
          have hown1 := hown.below (RCons.stab (J := J) (B := w.heap.size) (e := 0) (by decide) (by decide) (by decide)).mono hbi
          have hownb1 := hownb.below (RBool.stab (e := 0)).mono hbi
          have bA := (Below.refl wr.heap.size wr).alloc (Nat.le_refl _) (.cells #[.slice ao6 l.length cap6] 106)
          obtain ⟨cs, hcl, hcz, hown2, hR⟩ := hown1.below (RCons.stab (J := J) (B := w.heap.size) (e := 0) (by decide) (by decide) (by decide)).mono bA
          rw [List.length_take_of_le hk] at hown2 hcl
          have e0 := hcs1.cell 0
          clear hin
          go_wp2_with (at_builtin; refine stop_here ?_)
          unfold Stop
          refine wpList_append_own _ rfl _ _ 82 rfl _ 106 j0 (.slice none 0 0) 1 24 Tryd.underlying82 gi gz0 gz1 gz2 rfl (by decide) _ _ _ rfl hown2 ⟨wr.heap.size, 0, none⟩ 1 1 [.slice ao6 l.length cap6] rfl rfl (cells_new _ #[.slice ao6 l.length cap6] _) ?_ ?_ ?_ ?_ ?_
          · intro u hu; simp at hu; subst hu; rfl
          · unfold maxLen; omega
          · omega
          · exact Nat.le_trans bw.size bA.size
          intro v' w2 hown3 hgrow _
          have hE := Exc.ofGrown hown2 hgrow
          have hp := OwnOf.push (RCons.stab (J := J) (B := w.heap.size) (e := 106) (by decide) (by decide) (by decide)) (List.length_take_of_le hk) hcl hcz hown2 hR hgrow hown3 rfl ⟨_, rfl, HI.out.below (RCon.stab (e := 0) (by decide) (by decide)).mono bA⟩
          rw [← take_snoc c k _ HL.out] at hp
          have b2 := Below.grown (bw.trans (bA.mono bw.size)) hgrow (Nat.le_trans bw.size bA.size) (fun k hk => (hown2.lt k hk).1)
          have hcs2 : CsAt w2 _ v1 v2 inc := hE _ _ _ _ ((bA.block _ hcs1.lt).trans hcs1) (by decide)
          have hcr2 : CsAt w2 _ (.slice none 0 0) (.slice none 0 0) false := hE _ _ _ _ ((bA.block _ hcr1.lt).trans hcr1) (by decide)
          have hb2 := (hownb1.below (RBool.stab (e := 0)).mono bA).exc (by decide) (RBool.stab (e := 106)) hE
          clear hgrow hown3 hown2 hR hcz hcl hown hown1 hE hownb hownb1 hcs1 hcr1 hcs hcr e0 bA
          have g0 := hcs2.cell 0
          have g1 := hcs2.cell 1
          have gf := hcs2.free 0
          obtain ⟨ao7, cap7, e7⟩ := hp.sl.len
          rw [List.length_take_of_le (by omega)] at e7
          subst e7
          have HP := Lib.hid hp
          clear hp
          go_wp2_with (at_builtin; refine stop_here ?_)
          unfold Stop
          have X3 := Exc.ofSet (i := 0) hcs2 (.slice ao7 (k + 1) cap7)
          have hcs3 := hcs2.set1 (.slice ao7 (k + 1) cap7)
          have hcr3 : CsAt (w2.setCell ⟨w.heap.size + 1, 0, none⟩ (.slice ao7 (k + 1) cap7)) w.heap.size (.slice none 0 0) (.slice none 0 0) false := (Below.heap_setCell _ _ _ _ (by simp)).trans hcr2
          have P3 := HP.out.exc (by decide) (RCons.stab (J := J) (B := w.heap.size) (e := 85) (by decide) (by decide) (by decide)) X3
          have Q3 := hb2.exc (by decide) (RBool.stab (e := 85)) X3
          have b3 := Below.setCell b2 (p := ⟨w.heap.size + 1, 0, none⟩) (by simp) (.slice ao7 (k + 1) cap7)
          clear X3 HP hb2 hcs2 hcr2 b2 g0 g1 gf
          have hs3 : Hid ((w2.setCell ⟨w.heap.size + 1, 0, none⟩ (.slice ao7 (k + 1) cap7)).heap.size = w2.heap.size) := by show _ = _; simp
          generalize w2.setCell ⟨w.heap.size + 1, 0, none⟩ (.slice ao7 (k + 1) cap7) = w3 at *
          have bA := (Below.refl w3.heap.size w3).alloc (Nat.le_refl _) (.cells #[.bool ph] 4)
          obtain ⟨cs, hcl, hcz, hown2, hR⟩ := Q3.below (RBool.stab (e := 0)).mono bA
          rw [List.length_map, List.length_take_of_le hk] at hown2 hcl
          refine wpList_append_own _ rfl _ _ 83 rfl _ 4 m0 (.bool false) 1 1 Tryd.underlying83 bi bz0 bz1 bz2 rfl (by decide) _ _ _ rfl hown2 ⟨w2.heap.size, 0, none⟩ 1 1 [.bool ph] rfl rfl (by rw [← hs3.out]; exact cells_new _ #[.bool ph] _) ?_ ?_ ?_ ?_ ?_
          · intro u hu; simp at hu; subst hu; rfl
          · unfold maxLen; omega
          · omega
          · exact Nat.le_trans b3.size bA.size
          intro v5 w5 hown3 hgrow _
          have hE := Exc.ofGrown hown2 hgrow
          have hq := OwnOf.push (RBool.stab (e := 4)) (by rw [List.length_map, List.length_take_of_le hk]) hcl hcz hown2 hR hgrow hown3 rfl (show RBool _ _ ph from rfl)
          have eq9 : (c.take k).map hasPre ++ [ph] = (c.take (k + 1)).map hasPre := by rw [take_snoc c k _ HL.out, List.map_append, ← HPH.out]; rfl
          rw [eq9] at hq
          have b5 := Below.grown (b3.trans (bA.mono b3.size)) hgrow (Nat.le_trans b3.size bA.size) (fun k hk => (hown2.lt k hk).1)
          have hcs5 : CsAt w5 _ _ v2 inc := hE _ _ _ _ ((bA.block _ hcs3.lt).trans hcs3) (by decide)
          have hcr5 : CsAt w5 _ (.slice none 0 0) (.slice none 0 0) false := hE _ _ _ _ ((bA.block _ hcr3.lt).trans hcr3) (by decide)
          have P5 := (P3.below (RCons.stab (J := J) (B := w.heap.size) (e := 0) (by decide) (by decide) (by decide)).mono bA).exc (by decide) (RCons.stab (J := J) (B := w.heap.size) (e := 4) (by decide) (by decide) (by decide)) hE
          clear hgrow hown3 hown2 hR hcz hcl hE P3 Q3 hcs3 hcr3 bA b3 eq9
          obtain ⟨ao8, cap8, e8⟩ := hq.sl.len
          rw [List.length_map, List.length_take_of_le (by omega)] at e8
          subst e8
          have X6 := Exc.ofSet (i := 1) hcs5 (.slice ao8 (k + 1) cap8)
          have P6 := P5.exc (by decide) (RCons.stab (J := J) (B := w.heap.size) (e := 85) (by decide) (by decide) (by decide)) X6
          have Q6 := hq.exc (by decide) (RBool.stab (e := 85)) X6
          have hcs6 := hcs5.set2 (.slice ao8 (k + 1) cap8)
          have hcr6 : CsAt (w5.setCell ⟨w.heap.size + 1, 1, none⟩ (.slice ao8 (k + 1) cap8)) w.heap.size (.slice none 0 0) (.slice none 0 0) false := (Below.heap_setCell _ _ _ _ (by simp)).trans hcr5
          have b6 := Below.setCell b5 (p := ⟨w.heap.size + 1, 1, none⟩) (by simp) (.slice ao8 (k + 1) cap8)
          have s6 := hcs6.lt
          have g1 := hcs5.cell 1
          have gf := hcs5.free 1
          have HF := Lib.hid (And.intro P6 Q6)
          clear P6 Q6 P5 hq X6
          go_wp2_with fail
          go_roundw
          case rel => exact ⟨k + 1, _, _, by omega, by go_num, hcs6, hcr6, HF.out.1, HF.out.2, by omega, b6⟩
          case measure => simp [intOf]; omega
    · obtain rfl : k = c.length := by omega
      rw [List.take_length] at hown hownb
      have d0 := hcs.cell 0
      have d1 := hcs.cell 1
      have d2 := hcs.cell 2
      have r0 := hcr.cell 0
      have f0 := hcr.free 0
      have r1 := hcr.cell 1
      have f1 := hcr.free 1
      have r2 := hcr.cell 2
      have f2 := hcr.free 2
      have hz := ((hcr.set1 v1).set2 v2).set3 inc
      have r3 := hz.cell 0
      have r4 := hz.cell 1
      have r5 := hz.cell 2
      have X0 := Exc.ofSet (i := 0) hcr v1
      have X1 := Exc.ofSet (i := 1) (hcr.set1 v1) v2
      have X2 := Exc.ofSet (i := 2) ((hcr.set1 v1).set2 v2) (.bool inc)
      have XX := (X0.trans X1).trans X2
      have PF := hown.exc (by decide) (RCons.stab (J := J) (B := w.heap.size) (e := 85) (by decide) (by decide) (by decide)) XX
      have QF := hownb.exc (by decide) (RBool.stab (e := 85)) XX
      have bF := ((hb.setCell (p := ⟨w.heap.size, 0, none⟩) (Nat.le_refl _) v1).setCell (p := ⟨w.heap.size, 1, none⟩) (Nat.le_refl _) v2).setCell (p := ⟨w.heap.size, 2, none⟩) (Nat.le_refl _) (.bool inc)
      have HF := Lib.hid (And.intro PF (And.intro QF bF))
      clear PF QF bF X0 X1 X2 XX hown hownb
      obtain ⟨ao7, cap7, rfl⟩ := HF.out.1.sl.len
      obtain ⟨ao8, cap8, rfl⟩ := HF.out.2.1.sl.len
      go_wp2_with fail
      simp only [List.length_map] at HF r3 r4 r5
      refine bodyPost_ret (v := .agg #[.slice ao7 c.length cap7, .slice ao8 c.length cap8, .bool inc]) (by simp [results, Tryd.results81, go_sem, r3, r4, r5]) rfl ?_
      exact ⟨_, _, rfl, HF.out.1, HF.out.2.1, HF.out.2.2⟩
end Go.Proofs.YtdlpcfhhpjjjmaaDoor

namespace Go.Proofs.YtdlpcfhhpjjjmaaDoor
open Go.RowKit
set_option linter.unusedVariables false
set_option linter.unusedSimpArgs false

def RConr (J : Nat → Prop) (w : World) (us : List Value) (l : List Tm) : Prop := ∃ u, us = [u] ∧ SlOf (RCon J) 1 w u l
theorem RConr.mono {J : Nat → Prop} : Mono (RConr J) := fun _ _ _ _ hb ⟨u, e, h⟩ => ⟨u, e, h.below (RCon.stab (e := 0) (by decide) (by decide)).mono hb⟩

/-- What lists of terms say, h being what a term says where prereleases are let in or not. -/
def allT (h : Tm → Bool → Bool) (inc : Bool) (l : List Tm) : Bool := l.all fun t => h t (inc || hasPre l)
def holdsT (h : Tm → Bool → Bool) (inc : Bool) (c : List (List Tm)) : Bool := c.any (allT h inc)
/-- The terms' checks over the version x.y.z-q. -/
def ChecksAre (h : Tm → Bool → Bool) (x y z : Int) (q : ByteArray) (c : List (List Tm)) : Prop :=
  ∀ l ∈ c, ∀ t ∈ l, ∀ pre, CheckIs (opS t.1) x y z t.2.2.1 t.2.2.2.1 t.2.2.2.2.1 q t.2.2.2.2.2 (decide (t.2.1 ≠ 3)) (decide (t.2.1 = 1)) (decide (t.2.1 = 2)) pre (h t pre)

theorem any_no {α : Type} (f : α → Bool) (l : List α) (k : Nat) (x : α) (hx : l[k]? = some x) (h : (l.take k).any f = false) (hf : f x = false) : (l.take (k + 1)).any f = false := by
  rw [take_snoc l k x hx, List.any_append, h]; simp [hf]
theorem any_yes {α : Type} (f : α → Bool) (l : List α) (k : Nat) (x : α) (hx : l[k]? = some x) (hf : f x = true) : l.any f = true := List.any_eq_true.2 ⟨x, List.mem_of_getElem? hx, hf⟩
theorem all_yes {α : Type} (f : α → Bool) (l : List α) (k : Nat) (x : α) (hx : l[k]? = some x) (h : (l.take k).all f = true) (hf : f x = true) : (l.take (k + 1)).all f = true := by
  rw [take_snoc l k x hx, List.all_append, h]; simp [hf]
theorem all_no {α : Type} (f : α → Bool) (l : List α) (k : Nat) (x : α) (hx : l[k]? = some x) (hf : f x = false) : l.all f = false := List.all_eq_false.2 ⟨x, List.mem_of_getElem? hx, by simp [hf]⟩

set_option maxRecDepth 100000 in
set_option maxHeartbeats 4000000 in
theorem check_any (h : Tm → Bool → Bool) (c : List (List Tm)) (v1 v2 : Value) (inc : Bool) (g : Nat) (x y z : Int) (q n r : ByteArray) (w : World) (h1 : Hid (SlOf (RConr (g ≠ ·)) 1 w v1 c)) (h2 : Hid (SlOf RBool 1 w v2 (c.map hasPre))) (hg : VerAt w g (verC x y z q n r)) (he : Hid (Errs w)) (hC : Hid (ChecksAre h x y z q c)) (hn : c.length ≤ 1000) (hln : Hid (∀ l ∈ c, l.length ≤ 1000)) :
    Calls Tryd.prog 83 #[.agg #[v1, v2, .bool inc], .pointer (some ⟨g, 0, none⟩)] w (BoolPost (holdsT h inc c) w) := by
  obtain ⟨ao, cap, rfl, hx⟩ := h1.out
  obtain ⟨ao1, cap1, e1, hy⟩ := h2.out
  rw [List.length_map] at e1
  subst e1
  have HX := Lib.hid hx
  have HY := Lib.hid hy
  clear hx hy h1 h2
  go_enter Tryd.func83, Tryd.ntmps83
  go_wp2_with fail
  go_loopw [15] (fun i wr => ∃ k : Nat, k ≤ c.length ∧ i = .int .i64 k ∧ Hid ((c.take k).any (allT h inc) = false) ∧ CsAt wr w.heap.size (.slice ao c.length cap) (.slice ao1 c.length cap1) inc ∧ Below w.heap.size w wr) (fun i _ => c.length - (intOf i).toNat)
  case atStart => exact ⟨0, Nat.zero_le _, rfl, by show _ = _; simp, csAt_new w _ _ _ _ rfl, (Below.refl _ _).alloc (Nat.le_refl _) _⟩
  case round =>
    obtain ⟨k, hk, rfl, hrec, hcs, hb⟩ := hrel
    by_cases hkL : k < c.length
    · obtain ⟨l, hl⟩ : ∃ l, c[k]? = some l := ⟨c[k], List.getElem?_eq_getElem hkL⟩
      obtain ⟨ab, aoff, us, rfl, hz, hcell, u, rfl, hu⟩ := HX.out k l hl
      have c0 := cellBS hb (hcell 0 u rfl)
      obtain ⟨ab1, aoff1, us1, rfl, hz1, hcell1, hub⟩ := HY.out k (hasPre l) (by rw [List.getElem?_map, hl]; rfl)
      unfold RBool at hub
      subst hub
      have c1 := cellBS hb (hcell1 0 _ rfl)
      obtain ⟨ao2, cap2, rfl, hx2⟩ := hu
      have HX2 := Lib.hid hx2
      have HL := Lib.hid hl
      clear hx2 hcell hl hcell1
      simp only [Nat.mul_one, Nat.add_zero] at c0 c1
      obtain ⟨ph, HPH⟩ : ∃ ph, Hid (hasPre l = ph) := ⟨_, rfl⟩
      rw [HPH.out] at c1
      go_wp2_with fail
      go_loopw [7, 22] (fun jv i wi => ∃ m : Nat, m ≤ l.length ∧ i = .int .i64 m ∧ jv = .bool true ∧ Hid ((l.take m).all (fun t => h t (inc || hasPre l)) = true) ∧ Below wr.heap.size wr wi) (fun _ i _ => l.length - (intOf i).toNat)
      case atStart => exact ⟨0, Nat.zero_le _, rfl, rfl, by show _ = _; simp, Below.refl _ _⟩
      case round =>
        obtain ⟨m, hm, rfl, rfl, hin, hbi⟩ := hrel
        have bw := (hb.trans (hbi.mono hb.size))
        have hcs1 : CsAt _ _ _ _ inc := (hbi.block _ hcs.lt).trans hcs
        by_cases hmL : m < l.length
        · obtain ⟨t, ht⟩ : ∃ t, l[m]? = some t := ⟨l[m], List.getElem?_eq_getElem hmL⟩
          obtain ⟨ab2, aoff2, us2, rfl, hz2', hcell2, kb, j, hJ, rfl, hK, hV⟩ := HX2.out m t ht
          have HT := Lib.hid ht
          have d0 := cellBS bw (hcell2 0 _ rfl)
          have d1 := cellBS hbi c1
          have d2 := hcs1.cell 1
          have d3 := hcs1.cell 2
          simp only [Nat.mul_one, Nat.add_zero] at d0
          clear ht hz2' hcell2
          have hlL := hln.out l (List.mem_of_getElem? HL.out)
          have HK := hC.out l (List.mem_of_getElem? HL.out) t (List.mem_of_getElem? HT.out) (inc || ph)
          have HK2 := HK g j kb n r ⟨#[]⟩ ⟨#[]⟩ _ (hg.below bw) (hV.below bw) (hK.below bw) hJ (he.below bw)
          obtain ⟨b, HB⟩ : ∃ b, Hid (h t (inc || ph) = b) := ⟨_, rfl⟩
          rw [HB.out] at HK2
          have HK3 := Lib.hid HK2
          clear HK HK2
          cases inc with
          | false =>
            simp only [Bool.false_or] at HK3
            go_wp2_with fail
            refine HK3.out.mono ?_
            rintro e w' ⟨ev, rfl, hb2⟩
            have b3 := hbi.trans (hb2.mono hbi.size)
            have hcs2 : CsAt _ _ _ _ _ := (hb2.block _ hcs1.lt).trans hcs1
            have bw2 := bw.trans (hb2.mono bw.size)
            cases b with
            | false =>
              have HN := Lib.hid (any_no (allT h _) c k l HL.out hrec.out (all_no _ l m t HT.out (by rw [HPH.out]; exact HB.out)))
              clear hrec hin
              go_wp2_with fail
              go_roundw
              case rel => exact ⟨k + 1, by omega, by go_num, HN, hcs2, bw2⟩
              case measure => simp [intOf]; omega
            | true =>
              have HN := Lib.hid (all_yes _ l m t HT.out hin.out (by rw [HPH.out]; exact HB.out))
              clear hin
              go_wp2_with fail
              go_roundw
              case rel => exact ⟨m + 1, by omega, by go_num, rfl, HN, b3⟩
              case measure => simp [intOf]; omega
          | true =>
            simp only [Bool.true_or] at HK3
            go_wp2_with fail
            refine HK3.out.mono ?_
            rintro e w' ⟨ev, rfl, hb2⟩
            have b3 := hbi.trans (hb2.mono hbi.size)
            have hcs2 : CsAt _ _ _ _ _ := (hb2.block _ hcs1.lt).trans hcs1
            have bw2 := bw.trans (hb2.mono bw.size)
            cases b with
            | false =>
              have HN := Lib.hid (any_no (allT h _) c k l HL.out hrec.out (all_no _ l m t HT.out (by rw [HPH.out]; exact HB.out)))
              clear hrec hin
              go_wp2_with fail
              go_roundw
              case rel => exact ⟨k + 1, by omega, by go_num, HN, hcs2, bw2⟩
              case measure => simp [intOf]; omega
            | true =>
              have HN := Lib.hid (all_yes _ l m t HT.out hin.out (by rw [HPH.out]; exact HB.out))
              clear hin
              go_wp2_with fail
              go_roundw
              case rel => exact ⟨m + 1, by omega, by go_num, rfl, HN, b3⟩
              case measure => simp [intOf]; omega
        · obtain rfl : m = l.length := by omega
          have HN : Hid (holdsT h inc c = true) := by
            have := hin.out
            rw [List.take_length] at this
            exact any_yes (allT h inc) c k l HL.out this
          go_wp2_with fail
          go_ret
          exact ⟨ret_bool HN.out.symm, bw⟩
    · have HN : Hid (holdsT h inc c = false) := by
        have := hrec.out
        rw [List.take_of_length_le (by omega)] at this
        exact this
      go_wp2_with fail
      go_ret
      exact ⟨ret_bool HN.out.symm, hb⟩
end Go.Proofs.YtdlpcfhhpjjjmaaDoor

namespace Go.Proofs.YtdlpcfhhpjjjmaaDoor
open Go.RowKit
set_option linter.unusedVariables false
set_option linter.unusedSimpArgs false

theorem SlOf.imp {α : Type} {R R' : World → List Value → α → Prop} {z : Nat} {w : World} {v : Value} {l : List α} (h : SlOf R z w v l) (hi : ∀ us x, R w us x → R' w us x) : SlOf R' z w v l := by
  obtain ⟨ao, cap, rfl, hx⟩ := h
  refine ⟨ao, cap, rfl, fun i x hx1 => ?_⟩
  obtain ⟨b, off, us, h1, h2, h3, h4⟩ := hx i x hx1
  exact ⟨b, off, us, h1, h2, h3, hi _ _ h4⟩
theorem zz_conv {N : Nat} {T : TypeId} {w : World} {u : Value} {c : List (List Tm)} (h : OwnOf (RZzs (N ≤ ·) N) 1 N T w u c) : SlOf (RZzr (fun j => j < w.heap.size ∧ N ≤ j)) 1 w u c :=
  h.sl.imp fun us l ⟨u', e, ho⟩ => ⟨u', e, ho.sl.imp fun us t ⟨k, hk, e', hv⟩ => ⟨k, ⟨hv.lt, hk⟩, e', hv⟩⟩
theorem con_conv {J : Nat → Prop} {B g : Nat} {T : TypeId} {w : World} {u : Value} {c : List (List Tm)} (h : OwnOf (RCons J B) 1 B T w u c) (hJ : ∀ j, J j → g ≠ j) : SlOf (RConr (g ≠ ·)) 1 w u c :=
  h.sl.imp fun us l ⟨u', e, ho⟩ => ⟨u', e, ho.sl.imp fun us t ⟨k, j, hj, r⟩ => ⟨k, j, hJ j hj, r⟩⟩

def TmsIn (c : List (List Tm)) : Prop := c.length ≤ 1000 ∧ ∀ l ∈ c, l.length ≤ 1000 ∧ ∀ t ∈ l, TmIn t

theorem PlainAt.below9 {w w' : World} {g : Nat} {cs : Array Value} (h : PlainAt w g cs) (hb : Below w.heap.size w w') : PlainAt w' g cs := (hb.block g h.lt).trans h

set_option maxRecDepth 100000 in
set_option maxHeartbeats 4000000 in
theorem termsHold_any (h : Tm → Bool → Bool) (c : List (List Tm)) (v : Value) (x y z : Int) (q n : ByteArray) (inc : Bool) (w : World) (hc : Hid (SlOf RTms 1 w v c)) (he : Hid (Errs w)) (hi : Hid (TmsIn c)) (hC : Hid (ChecksAre h x y z q c)) :
    Calls Tryd.prog 47 #[v, .agg (plainC x y z q n), .bool inc] w (BoolPost (holdsT h inc c) w) := by
  have hn := hi.out.1
  have hln : Hid (∀ l ∈ c, l.length ≤ 1000) := fun l hl => (hi.out.2 l hl).1
  go_enter Tryd.func47, Tryd.ntmps47
  go_wp2_with fail
  refine wp_named ?_
  intro W0 hW0
  have hP : Hid (PlainAt W0 w.heap.size (plainC x y z q n)) := by rw [← hW0]; exact plainAt_last _ _ _ rfl
  have b0 : Hid (Below w.heap.size w W0) := by rw [← hW0]; exact (Below.refl _ _).alloc (Nat.le_refl _) _
  clear hW0
  have hc0 := Lib.hid (hc.out.below RTms.mono b0.out)
  have he0 := Lib.hid (he.out.below b0.out)
  clear hc he hn
  refine wp_region_held_drew (S := fun w' => Hid (Below W0.heap.size W0 w')) (by kernel_rfl) ?_ (fun hHeld => ?_)
  · exact (Below.refl _ _).drew
  refine wpAnyH_take (i := 0) (v := ?_) rfl (by kernel_rfl) (by kernel_rfl) (by kernel_rfl) (fun _ _ _ h => h) (Or.inl ⟨by rfl, ?_⟩) (by assumption) ?_
  rotate_left
  · (intro w hSw; go_simp; (try with_reducible rfl))
  (try simp only [Act.put, List.getElem_toArray, List.getElem_cons_zero, List.getElem_cons_succ, List.setIfInBounds_toArray, List.set_cons_zero, List.set_cons_succ])
  refine wpAnyH_take (i := 2) (v := ?_) rfl (by kernel_rfl) (by kernel_rfl) (by kernel_rfl) (fun _ _ _ h => h) (Or.inl ⟨by rfl, ?_⟩) (by assumption) ?_
  rotate_left
  · (intro w hSw; go_simp; (try with_reducible rfl))
  (try simp only [Act.put, List.getElem_toArray, List.getElem_cons_zero, List.getElem_cons_succ, List.setIfInBounds_toArray, List.set_cons_zero, List.set_cons_succ])
  refine wpAnyH_take (i := 4) (v := ?_) rfl (by kernel_rfl) (by kernel_rfl) (by kernel_rfl) (fun _ _ _ h => h) (Or.inl ⟨by rfl, ?_⟩) (by assumption) ?_
  rotate_left
  · (intro w hSw; have k0 := (hP.out.below9 hSw.out).cell 0; have k1 := (hP.out.below9 hSw.out).cell 1; have k2 := (hP.out.below9 hSw.out).cell 2; have k3 := (hP.out.below9 hSw.out).cell 3; have k4 := (hP.out.below9 hSw.out).cell 4; go_simp; (try with_reducible rfl))
  (try simp only [Act.put, List.getElem_toArray, List.getElem_cons_zero, List.getElem_cons_succ, List.setIfInBounds_toArray, List.set_cons_zero, List.set_cons_succ])
  refine wpAnyH_ready (rs := [1]) (by kernel_rfl) (by simp) ?_
  refine AllReadyH.cons rfl (fun K hK => ?_) AllReadyH.nil
  go_simp
  go_at_call 82
  refine (terms_any c v _ (hc0.out.below RTms.mono hHeld.out) hi.out.1 hi.out.2).mono ?_
  rintro e w1 ⟨u, rfl, hT, hb1⟩
  have HT := Lib.hid (zz_conv hT)
  obtain ⟨ao, cap, rfl⟩ := hT.sl.len
  have HH := Lib.hid (hHeld.out.trans (hb1.mono hHeld.out.size))
  clear hT hb1
  refine hK.out _ _ HH (fun hH2 => ?_)
  clear hK K hHeld hH2
  have hHeld := HH
  clear HH
  (try simp only [Act.put, List.getElem_toArray, List.getElem_cons_zero, List.getElem_cons_succ, List.setIfInBounds_toArray, List.set_cons_zero, List.set_cons_succ])
  refine wpAnyH_ready (rs := [3]) (by kernel_rfl) (by simp) ?_
  refine AllReadyH.cons rfl (fun K hK => ?_) AllReadyH.nil
  go_simp
  go_at_call 81
  refine (zzCons_any _ c _ inc _ HT hi.out.1 hln).mono ?_
  rintro e w2 ⟨v1, v2, rfl, h1, h2, hb2⟩
  have HH := Lib.hid (hHeld.out.trans (hb2.mono hHeld.out.size))
  have hs2 := Lib.hid hb2.size
  have H1 := Lib.hid h1
  have H2 := Lib.hid h2
  obtain ⟨ao1, cap1, rfl⟩ := h1.sl.len
  obtain ⟨ao2, cap2, e2⟩ := h2.sl.len
  rw [List.length_map] at e2
  subst e2
  clear h1 h2 hb2
  refine hK.out _ _ HH (fun hH2 => ?_)
  clear hK K hHeld hH2
  have hHeld := HH
  clear HH
  (try simp only [Act.put, List.getElem_toArray, List.getElem_cons_zero, List.getElem_cons_succ, List.setIfInBounds_toArray, List.set_cons_zero, List.set_cons_succ])
  refine wpAnyH_ready (rs := [5]) (by kernel_rfl) (by simp) ?_
  refine AllReadyH.cons rfl (fun K hK => ?_) AllReadyH.nil
  go_simp
  go_at_call 62
  refine (version_any _ _ _ _ _ _).mono ?_
  rintro e w3 ⟨rfl, hw⟩
  have hb3 : Below w2.heap.size w2 w3 := by rw [hw]; exact ((Below.refl _ _).alloc (Nat.le_refl _) _).alloc (by simp) _
  have hV : VerAt w3 (w2.heap.size + 1) (verC x y z q n ⟨#[]⟩) := by rw [hw]; exact verAt_last _ _ _ (by simp)
  have HH := Lib.hid (hHeld.out.trans (hb3.mono hHeld.out.size))
  have H3 := Lib.hid (con_conv (g := w2.heap.size + 1) (H1.out.below (RCons.stab (e := 0) (by decide) (by decide) (by decide)).mono hb3) (fun j hj => by have h1 := hs2.out; have h2 : j < w1.heap.size := hj.1; omega))
  have H4 := Lib.hid (H2.out.below (RBool.stab (e := 0)).mono hb3).sl
  clear hw hb3
  refine hK.out _ _ HH (fun hH2 => ?_)
  clear hK K hHeld hH2
  have hHeld := HH
  clear HH
  (try simp only [Act.put, List.getElem_toArray, List.getElem_cons_zero, List.getElem_cons_succ, List.setIfInBounds_toArray, List.set_cons_zero, List.set_cons_succ])
  refine wpAnyH_ready (rs := [6]) (by kernel_rfl) (by simp) ?_
  refine AllReadyH.cons rfl (fun K hK => ?_) AllReadyH.nil
  go_simp
  go_at_call 83
  refine (check_any h c _ _ inc _ x y z q n ⟨#[]⟩ _ H3 H4 hV (he0.out.below hHeld.out) hC hi.out.1 hln).mono ?_
  rintro e w4 ⟨rfl, hb4⟩
  have HH := Lib.hid (hHeld.out.trans (hb4.mono hHeld.out.size))
  clear hb4
  refine hK.out _ _ HH (fun hH2 => ?_)
  clear hK K hHeld hH2
  have hHeld := HH
  clear HH
  (try simp only [Act.put, List.getElem_toArray, List.getElem_cons_zero, List.getElem_cons_succ, List.setIfInBounds_toArray, List.set_cons_zero, List.set_cons_succ])
  refine wpAnyH_ready (rs := [7]) (by kernel_rfl) (by simp) ?_
  refine AllReadyH.cons rfl (fun K hK => ?_) AllReadyH.nil
  go_simp
  refine hK.out _ _ hHeld (fun hH2 => ?_)
  clear hK K
  (try simp only [Act.put, List.getElem_toArray, List.getElem_cons_zero, List.getElem_cons_succ, List.setIfInBounds_toArray, List.set_cons_zero, List.set_cons_succ])
  refine wpAnyH_done (by kernel_rfl) ?_ _
  go_wp2_with fail
  go_ret
  exact ⟨rfl, b0.out.trans (hHeld.out.mono b0.out.size)⟩
end Go.Proofs.YtdlpcfhhpjjjmaaDoor
