/- (*cron.SpecSchedule).Next in UTC. -/
import Derived.Test.YtkhggefbkhdimaaGreatDoorTnP
import Derived.ScopeJumps
import Derived.Deep.LoopGhost
namespace Go.Proofs.YtkhggefbkhdimaaGreatDoor
open Go.RowKit
set_option linter.unusedVariables false
set_option linter.unusedSimpArgs false

/-- What is known of the world within Next: the time in its box, the answer's box, the schedule, two places. -/
def NW (w0 W : World) (sg g o l : Nat) (s : Sched) (ns : Nat) (ext : Int) : Prop :=
  TmAt W g ns ext ∧ RowAt W (g + 1) 95 #[.int .u64 0, .int .i64 0, .pointer none] ∧ SchedAt W sg s ∧ UtcAt W o ∧ UtcAt W l ∧ Below w0.heap.size w0 W ∧ w0.heap.size ≤ g ∧ sg < g ∧ g + 1 < o ∧ g + 1 < l
theorem NW.below {w0 W W' : World} {sg g o l : Nat} {s : Sched} {ns : Nat} {ext : Int} (h : NW w0 W sg g o l s ns ext) (hb : Below W.heap.size W W') : NW w0 W' sg g o l s ns ext :=
  ⟨h.1.below hb, h.2.1.below hb, h.2.2.1.below hb, h.2.2.2.1.below hb, h.2.2.2.2.1.below hb, h.2.2.2.2.2.1.trans (hb.mono h.2.2.2.2.2.1.size), h.2.2.2.2.2.2⟩
theorem NW.drew {w0 W : World} {sg g o l : Nat} {s : Sched} {ns : Nat} {ext : Int} (h : NW w0 W sg g o l s ns ext) : NW w0 W.drew sg g o l s ns ext := h.below (Below.refl _ _).drew
/-- A store of a time into the box. -/
theorem NW.store {w0 W : World} {sg g o l : Nat} {s : Sched} {ns : Nat} {ext : Int} (h : NW w0 W sg g o l s ns ext) (ns' : Nat) (ext' : Int) :
    NW w0 (((W.setCell ⟨g, 0, none⟩ (.int .u64 ns')).setCell ⟨g, 1, none⟩ (.int .i64 ext')).setCell ⟨g, 2, none⟩ (.pointer none)) sg g o l s ns' ext' := by
  obtain ⟨h1, h2, h3, h4, h5, h6, h7, h8, h9, h10⟩ := h
  exact ⟨h1.own3 _ _ _, h2.set3 (by omega) _ _ _, h3.set3 (by omega) _ _ _, h4.set3 (by omega) _ _ _, h5.set3 (by omega) _ _ _, below_set3 h6 h7 _ _ _, h7, h8, h9, h10⟩

theorem NW.lt {w0 W : World} {sg g o l : Nat} {s : Sched} {ns : Nat} {ext : Int} (h : NW w0 W sg g o l s ns ext) : g < W.heap.size := h.1.lt
/-- What Next gives: the least second that fits, in the years up to lim, else the zero time. -/
def NextIs (s : Sched) (first lim r : Int) : Prop := (first ≤ r ∧ fits s r = true ∧ yr r ≤ lim ∧ NoFit s first r) ∨ (r = 0 ∧ ∀ v, first ≤ v → yr v ≤ lim → fits s v = false)
theorem wp_scope_twice {P : Program} {Q : Exit → Act → World → Prop} {a : Act} {w : World} {c rest : Code} (l : Nat) (J : Act → World → Prop) (μ : Act → World → Nat) (hf : findLabel c l = some (Code.skip.seq rest))
    (pass : ∀ a w, J a w → rest.wp P (Exit.jump l (fun a' w' => J a' w' ∧ μ a' w' < μ a w) Q) a w)
    (first : (∀ a w, J a w → rest.wp P (Exit.jump l J Q) a w) → c.wp P (Exit.jump l J Q) a w) : (Code.scope c).wp P Q a w :=
  wp_scope_jumps l J μ hf (first (fun a w h => Code.wp_mono (fun e a' w' hq => by
    cases e with
    | goto l' => exact ⟨hq.1, hq.2.1⟩
    | _ => exact hq) (pass a w h))) (fun a w h => wp_seq (wp_skip (pass a w h)))

/-- A frame of Next at its label. -/
def FrameJ (tm : Array Value) (sg g o l : Nat) (b : Bool) (lim : Int) : Prop :=
  tm.size = 172 ∧ tm.getD 0 undef = .pointer (some ⟨sg, 0, none⟩) ∧ tm.getD 3 undef = .pointer (some ⟨g, 0, none⟩) ∧ tm.getD 4 undef = .pointer (some ⟨g + 1, 0, none⟩) ∧ tm.getD 5 undef = .pointer (some ⟨o, 0, none⟩) ∧ tm.getD 6 undef = .pointer (some ⟨l, 0, none⟩) ∧ tm.getD 7 undef = .bool b ∧ tm.getD 8 undef = .int .i64 lim
theorem arr_range (tm : Array Value) : tm = ((List.range tm.size).map fun i => tm.getD i undef).toArray := by
  apply Array.ext
  · simp
  · intro i h1 h2
    simp [Array.getD, h1]
set_option maxRecDepth 100000 in
theorem frame_of (tm : Array Value) (h : tm.size = 172) : ∃ t : Nat → Value, (∀ i, t i = tm.getD i undef) ∧ tm = #[t 0, t 1, t 2, t 3, t 4, t 5, t 6, t 7, t 8, t 9, t 10, t 11, t 12, t 13, t 14, t 15, t 16, t 17, t 18, t 19, t 20, t 21, t 22, t 23, t 24, t 25, t 26, t 27, t 28, t 29, t 30, t 31, t 32, t 33, t 34, t 35, t 36, t 37, t 38, t 39, t 40, t 41, t 42, t 43, t 44, t 45, t 46, t 47, t 48, t 49, t 50, t 51, t 52, t 53, t 54, t 55, t 56, t 57, t 58, t 59, t 60, t 61, t 62, t 63, t 64, t 65, t 66, t 67, t 68, t 69, t 70, t 71, t 72, t 73, t 74, t 75, t 76, t 77, t 78, t 79, t 80, t 81, t 82, t 83, t 84, t 85, t 86, t 87, t 88, t 89, t 90, t 91, t 92, t 93, t 94, t 95, t 96, t 97, t 98, t 99, t 100, t 101, t 102, t 103, t 104, t 105, t 106, t 107, t 108, t 109, t 110, t 111, t 112, t 113, t 114, t 115, t 116, t 117, t 118, t 119, t 120, t 121, t 122, t 123, t 124, t 125, t 126, t 127, t 128, t 129, t 130, t 131, t 132, t 133, t 134, t 135, t 136, t 137, t 138, t 139, t 140, t 141, t 142, t 143, t 144, t 145, t 146, t 147, t 148, t 149, t 150, t 151, t 152, t 153, t 154, t 155, t 156, t 157, t 158, t 159, t 160, t 161, t 162, t 163, t 164, t 165, t 166, t 167, t 168, t 169, t 170, t 171] := by
  refine ⟨fun i => tm.getD i undef, fun _ => rfl, ?_⟩
  have e := arr_range tm
  rw [h] at e
  exact e
theorem FrameJ.arr {tm : Array Value} {sg g o l : Nat} {b : Bool} {lim : Int} (h : FrameJ tm sg g o l b lim) : ∃ t : Nat → Value, tm = #[.pointer (some ⟨sg, 0, none⟩), t 1, t 2, .pointer (some ⟨g, 0, none⟩), .pointer (some ⟨g + 1, 0, none⟩), .pointer (some ⟨o, 0, none⟩), .pointer (some ⟨l, 0, none⟩), .bool b, .int .i64 lim, t 9, t 10, t 11, t 12, t 13, t 14, t 15, t 16, t 17, t 18, t 19, t 20, t 21, t 22, t 23, t 24, t 25, t 26, t 27, t 28, t 29, t 30, t 31, t 32, t 33, t 34, t 35, t 36, t 37, t 38, t 39, t 40, t 41, t 42, t 43, t 44, t 45, t 46, t 47, t 48, t 49, t 50, t 51, t 52, t 53, t 54, t 55, t 56, t 57, t 58, t 59, t 60, t 61, t 62, t 63, t 64, t 65, t 66, t 67, t 68, t 69, t 70, t 71, t 72, t 73, t 74, t 75, t 76, t 77, t 78, t 79, t 80, t 81, t 82, t 83, t 84, t 85, t 86, t 87, t 88, t 89, t 90, t 91, t 92, t 93, t 94, t 95, t 96, t 97, t 98, t 99, t 100, t 101, t 102, t 103, t 104, t 105, t 106, t 107, t 108, t 109, t 110, t 111, t 112, t 113, t 114, t 115, t 116, t 117, t 118, t 119, t 120, t 121, t 122, t 123, t 124, t 125, t 126, t 127, t 128, t 129, t 130, t 131, t 132, t 133, t 134, t 135, t 136, t 137, t 138, t 139, t 140, t 141, t 142, t 143, t 144, t 145, t 146, t 147, t 148, t 149, t 150, t 151, t 152, t 153, t 154, t 155, t 156, t 157, t 158, t 159, t 160, t 161, t 162, t 163, t 164, t 165, t 166, t 167, t 168, t 169, t 170, t 171] := by
  obtain ⟨hs, h0, h3, h4, h5, h6, h7, h8⟩ := h
  obtain ⟨t, ht, e⟩ := frame_of tm hs
  rw [← ht] at h0 h3 h4 h5 h6 h7 h8
  rw [h0, h3, h4, h5, h6, h7, h8] at e
  exact ⟨t, e⟩

set_option maxRecDepth 100000 in
set_option maxHeartbeats 16000000 in
theorem next_walk (sg : Nat) (s : Sched) (hok : Hid s.ok) (ns : Nat) (ext : Int) (hn : ns < 1000000000) (he : 0 ≤ ext) (he2 : ext < 320000000000) (w : World) (hs : Hid (SchedAt w sg s)) (first Y0 : Int) (Hf : Hid (first = ext + 1)) (HY0 : Hid (yearOf (dayN (ext + 1)) = Y0)) (yb0 : 1 ≤ Y0 ∧ Y0 ≤ 10000) :
    Calls Tryz.prog 190 #[.pointer (some ⟨sg, 0, none⟩), .agg #[.int .u64 ns, .int .i64 ext, .pointer none]] w fun e w' => ∃ r, Hid (NextIs s first (Y0 + 5) r) ∧ e = .returned (.agg #[.int .u64 0, .int .i64 r, .pointer none]) ∧ Below w.heap.size w w' := by
  go_enter Tryz.func190, Tryz.ntmps190
  go_wp2_with fail
  obtain ⟨g, hg⟩ : ∃ g, g = w.heap.size := ⟨_, rfl⟩
  have HW0 : Hid (TmAt ((w.alloc (.cells #[.int .u64 ns, .int .i64 ext, .pointer none] 95)).alloc (.cells #[.int .u64 0, .int .i64 0, .pointer none] 95)) g ns ext ∧ RowAt ((w.alloc (.cells #[.int .u64 ns, .int .i64 ext, .pointer none] 95)).alloc (.cells #[.int .u64 0, .int .i64 0, .pointer none] 95)) (g + 1) 95 #[.int .u64 0, .int .i64 0, .pointer none]) := by
    rw [hg]; exact ⟨(rowAt_last w _ _ _ rfl).alloc _, rowAt_last (w.alloc (.cells #[.int .u64 ns, .int .i64 ext, .pointer none] 95)) 95 #[.int .u64 0, .int .i64 0, .pointer none] _ (by simp)⟩
  have S0 : Hid (SchedAt ((w.alloc (.cells #[.int .u64 ns, .int .i64 ext, .pointer none] 95)).alloc (.cells #[.int .u64 0, .int .i64 0, .pointer none] 95)) sg s) := (hs.out.alloc _).alloc _
  rw [← hg]
  have HG := Lib.hid hg
  clear hg
  refine wp_scope_twice 0 (fun a' w' => ∃ (tm : Array Value) (o l : Nat) (b : Bool) (u : Int), Hid (NW w w' sg g o l s 0 u) ∧ Hid (JInv s first (Y0 + 5) b u) ∧ FrameJ tm sg g o l b (Y0 + 5) ∧ a' = { tmps := tm, defers := [] }) (fun _ w' => (1000000000000 - intOf ((w'.cell? ⟨g, 1, none⟩).getD undef)).toNat) rfl ?pass ?first
  case pass =>
    rintro a' w' ⟨tm, o, l, b, us, HN, HJ, HF, rfl⟩
    obtain ⟨t, rfl⟩ := HF.arr
    clear HF
    have hyb := yr_bound (show yr us ≤ 10011 from by have := HJ.out.2.2.1; omega)
    have h0 : 0 ≤ us := by have := HJ.out.1; omega
    have h1 : us < 319000000000 := hyb
    have mS : Hid (w'.cell? ⟨g, 1, none⟩ = some (.int .i64 us)) := HN.out.1.cell 1
    clear hyb
    have k0 : w'.cell? ⟨g, 0, none⟩ = some (.int .u64 0) := HN.out.1.cell 0
    have k1 : w'.cell? ⟨g, 1, none⟩ = some (.int .i64 (us)) := HN.out.1.cell 1
    have k2 : w'.cell? ⟨g, 2, none⟩ = some (.pointer none) := HN.out.1.cell 2
    go_wp2_with fail
    refine (tYear_any 0 us (by decide) h0 (by omega) _).mono ?_
    rintro e wc0 ⟨rfl, hb⟩
    have HN2 := Lib.hid (HN.out.below hb)
    clear hb HN
    have HN := HN2
    clear HN2
    clear k0 k1 k2
    obtain ⟨yu, Hyu⟩ : ∃ yu, Hid (yearOf (dayN us) = yu) := ⟨_, rfl⟩
    rw [Hyu.out]
    by_cases hlo : Y0 + 5 < yu
    · have z0 : wc0.cell? ⟨g + 1, 0, none⟩ = some (.int .u64 0) := HN.out.2.1.cell 0
      have z1 : wc0.cell? ⟨g + 1, 1, none⟩ = some (.int .i64 0) := HN.out.2.1.cell 1
      have z2 : wc0.cell? ⟨g + 1, 2, none⟩ = some (.pointer none) := HN.out.2.1.cell 2
      have f0 := HN.out.2.1.free 0
      have f1 := HN.out.2.1.free 1
      have f2 := HN.out.2.1.free 2
      have HZ : Hid (NextIs s first (Y0 + 5) 0) := Lib.hid (.inr ⟨rfl, HJ.out.zero (by unfold yr; rw [Hyu.out]; exact hlo)⟩)
      have B9 := HN.out.2.2.2.2.2.1
      have hgw := HN.out.2.2.2.2.2.2.1
      go_wp2_with fail
      simp only [Exit.jump]
      refine bodyPost_ret (v := .agg #[.int .u64 0, .int .i64 0, .pointer none]) (by simp [results, Tryz.results190, go_sem, z0, z1, z2, f0, f1, f2]) rfl ⟨0, HZ, rfl, ?_⟩
      exact (by repeat (first | (with_reducible assumption) | (with_reducible exact Below.refl _ _) | (with_reducible refine Below.setCell ?_ (by first | omega | (simp <;> omega)) _) | refine below_drewN ?_ _ | refine Below.drew ?_ | refine Below.alloc ?_ (by first | omega | (simp <;> omega)) _))
    · have HM : Hid (MInv s first (Y0 + 5) b us) := ⟨HJ.out, by show yr us ≤ _; unfold yr; rw [Hyu.out]; omega⟩
      obtain ⟨u, hu⟩ : ∃ u, u = us := ⟨_, rfl⟩
      rw [← hu] at HM HN h0 h1
      have hus : us ≤ u := by omega
      clear HJ hu
      go_wp2_with fail
      clear hlo
      obtain ⟨woM, rfl⟩ : ∃ wo : World, wo = wc0 := ⟨_, rfl⟩
      go_loopw [7] (fun bv wr => ∃ (b : Bool) (u : Int), bv = .bool b ∧ Hid (NW w wr sg g o l s 0 u) ∧ Hid (MInv s first (Y0 + 5) b u) ∧ us ≤ u ∧ 0 ≤ u ∧ u < 319000000000) (fun _ wr => (1000000000000 - intOf ((wr.cell? ⟨g, 1, none⟩).getD undef)).toNat)
      case atStart => exact ⟨b, u, rfl, HN, HM, hus, h0, h1⟩
      case round =>
        clear HN HM hus h0 h1
        obtain ⟨b, u, rfl, HN, HM, hus, h0, h1⟩ := hrel
        have m0 : Hid (wr.cell? ⟨g, 1, none⟩ = some (.int .i64 u)) := HN.out.1.cell 1
        have mb := month_bd (dayN u)
        go_wp2_with fail
        refine wp_region_held_drew (S := fun w' => Hid (NW w w' sg g o l s 0 u)) (by kernel_rfl) (Lib.hid HN.out.drew) (fun hHeld => ?_)
        (try simp only [Act.put, List.getElem_toArray, List.getElem_cons_zero, List.getElem_cons_succ, List.setIfInBounds_toArray, List.set_cons_zero, List.set_cons_succ])
        clear HN
        refine wpAnyH_take (i := 0) (v := ?_) rfl (by kernel_rfl) (by kernel_rfl) (by kernel_rfl) (fun _ _ _ h => h) (Or.inl ⟨by rfl, ?_⟩) (by assumption) ?_
        rotate_left
        · (intro wx hSw; have k0 : wx.cell? ⟨g, 0, none⟩ = some (.int .u64 0) := hSw.out.1.cell 0; have k1 : wx.cell? ⟨g, 1, none⟩ = some (.int .i64 (u)) := hSw.out.1.cell 1; have k2 : wx.cell? ⟨g, 2, none⟩ = some (.pointer none) := hSw.out.1.cell 2; go_simp; (try with_reducible rfl))
        (try simp only [Act.put, List.getElem_toArray, List.getElem_cons_zero, List.getElem_cons_succ, List.setIfInBounds_toArray, List.set_cons_zero, List.set_cons_succ])
        refine wpAnyH_take (i := 4) (v := ?_) rfl (by kernel_rfl) (by kernel_rfl) (by kernel_rfl) (fun _ _ _ h => h) (Or.inl ⟨by rfl, ?_⟩) (by assumption) ?_
        rotate_left
        · (intro wx hSw; go_simp; (try with_reducible rfl))
        (try simp only [Act.put, List.getElem_toArray, List.getElem_cons_zero, List.getElem_cons_succ, List.setIfInBounds_toArray, List.set_cons_zero, List.set_cons_succ])
        refine wpAnyH_take (i := 5) (v := ?_) rfl (by kernel_rfl) (by kernel_rfl) (by kernel_rfl) (fun _ _ _ h => h) (Or.inl ⟨by rfl, ?_⟩) (by assumption) ?_
        rotate_left
        · (intro wx hSw; go_simp; (try with_reducible rfl))
        (try simp only [Act.put, List.getElem_toArray, List.getElem_cons_zero, List.getElem_cons_succ, List.setIfInBounds_toArray, List.set_cons_zero, List.set_cons_succ])
        refine wpAnyH_take (i := 6) (v := ?_) rfl (by kernel_rfl) (by kernel_rfl) (by kernel_rfl) (fun _ _ _ h => h) (Or.inl ⟨by rfl, ?_⟩) (by assumption) ?_
        rotate_left
        · (intro wx hSw; go_simp; (try with_reducible rfl))
        (try simp only [Act.put, List.getElem_toArray, List.getElem_cons_zero, List.getElem_cons_succ, List.setIfInBounds_toArray, List.set_cons_zero, List.set_cons_succ])
        refine wpAnyH_take (i := 7) (v := ?_) rfl (by kernel_rfl) (by kernel_rfl) (by kernel_rfl) (fun _ _ _ h => h) (Or.inl ⟨by rfl, ?_⟩) (by assumption) ?_
        rotate_left
        · (intro wx hSw; have q : wx.cell? ⟨sg, 4, none⟩ = some (.int .u64 s.mo) := hSw.out.2.2.1.cell 4; go_simp; (try with_reducible rfl))
        (try simp only [Act.put, List.getElem_toArray, List.getElem_cons_zero, List.getElem_cons_succ, List.setIfInBounds_toArray, List.set_cons_zero, List.set_cons_succ])
        refine wpAnyH_ready (rs := [1]) (by kernel_rfl) (by simp) ?_
        refine (AllReadyH.cons rfl (fun K hK => ?_) AllReadyH.nil)
        go_simp
        go_at_call 194
        refine (tMonth_any 0 u (by decide) h0 (by omega) _).mono ?_
        rintro e wc ⟨rfl, hb1⟩
        have HN : Hid (NW w wc sg g o l s 0 u) := Lib.hid (hHeld.out.below hb1)
        clear hb1
        refine hK.out _ _ HN (fun hH2 => ?_)
        clear hK K hHeld 
        have hHeld := hH2
        clear hH2
        (try simp only [Act.put, List.getElem_toArray, List.getElem_cons_zero, List.getElem_cons_succ, List.setIfInBounds_toArray, List.set_cons_zero, List.set_cons_succ])
        refine wpAnyH_take (i := 2) (v := ?_) rfl (by kernel_rfl) (by kernel_rfl) (by kernel_rfl) (fun _ _ _ h => h) (Or.inl ⟨by rfl, ?_⟩) (by assumption) ?_
        rotate_left
        · (intro wx hSw; go_simp; (try with_reducible rfl))
        (try simp only [Act.put, List.getElem_toArray, List.getElem_cons_zero, List.getElem_cons_succ, List.setIfInBounds_toArray, List.set_cons_zero, List.set_cons_succ])
        refine wpAnyH_take (i := 3) (v := ?_) rfl (by kernel_rfl) (by kernel_rfl) (by kernel_rfl) (fun _ _ _ h => h) (Or.inl ⟨by rfl, ?_⟩) (by assumption) ?_
        rotate_left
        · (intro wx hSw; go_simp; (try with_reducible rfl))
        (try simp only [Act.put, List.getElem_toArray, List.getElem_cons_zero, List.getElem_cons_succ, List.setIfInBounds_toArray, List.set_cons_zero, List.set_cons_succ])
        refine wpAnyH_take (i := 8) (v := ?_) rfl (by kernel_rfl) (by kernel_rfl) (by kernel_rfl) (fun _ _ _ h => h) (Or.inl ⟨by rfl, ?_⟩) (by assumption) ?_
        rotate_left
        · (intro wx hSw; go_simp; (try with_reducible rfl))
        (try simp only [Act.put, List.getElem_toArray, List.getElem_cons_zero, List.getElem_cons_succ, List.setIfInBounds_toArray, List.set_cons_zero, List.set_cons_succ])
        refine wpAnyH_take (i := 9) (v := ?_) rfl (by kernel_rfl) (by kernel_rfl) (by kernel_rfl) (fun _ _ _ h => h) (Or.inl ⟨by rfl, ?_⟩) (by assumption) ?_
        rotate_left
        · (intro wx hSw; go_simp; (try with_reducible rfl))
        (try simp only [Act.put, List.getElem_toArray, List.getElem_cons_zero, List.getElem_cons_succ, List.setIfInBounds_toArray, List.set_cons_zero, List.set_cons_succ])
        refine wpAnyH_done (by kernel_rfl) ?_ _
        clear hHeld
        rw [bitZero _ (by omega) (by omega) _ hok.out.2.2.2.2.1]
        obtain ⟨mv, Hmv⟩ : ∃ mv, Hid (moOK s u = mv) := ⟨_, rfl⟩
        rw [show s.mo.testBit (monthOf (dayN u)).toNat = mv from Hmv.out]
        cases mv with
        | false =>
          have HS := Lib.hid (HM.out.step Hmv.out)
          have hlt := HS.out.1
          have B0 : 0 ≤ mid (mon1 u) := by omega
          have B1 : mid (mon1 u) < 319000000000 := yr_bound (by have := HS.out.2.1.2.2.1; omega)
          have yb := yr_bd1 h0 h1
          cases b with
          | false =>
            go_wp2_with fail
            refine wp_region_to (S := fun w' => Hid (NW w w' sg g o l s 0 u)) 6 (by kernel_rfl) (Lib.hid HN.out.drew) (fun hHeld => ?_)
            (try simp only [Act.put, List.getElem_toArray, List.getElem_cons_zero, List.getElem_cons_succ, List.setIfInBounds_toArray, List.set_cons_zero, List.set_cons_succ])
            clear HN
            refine wpTo_take (i := 0) (v := ?_) rfl (by kernel_rfl) (by kernel_rfl) (by kernel_rfl) (by kernel_rfl) (fun _ _ _ h => h) (Or.inl ⟨by rfl, ?_⟩) (by assumption) ?_
            rotate_left
            · (intro wx hSw; have k0 : wx.cell? ⟨g, 0, none⟩ = some (.int .u64 0) := hSw.out.1.cell 0; have k1 : wx.cell? ⟨g, 1, none⟩ = some (.int .i64 (u)) := hSw.out.1.cell 1; have k2 : wx.cell? ⟨g, 2, none⟩ = some (.pointer none) := hSw.out.1.cell 2; go_simp; (try with_reducible rfl))
            (try simp only [Act.put, List.getElem_toArray, List.getElem_cons_zero, List.getElem_cons_succ, List.setIfInBounds_toArray, List.set_cons_zero, List.set_cons_succ])
            refine wpTo_take (i := 2) (v := ?_) rfl (by kernel_rfl) (by kernel_rfl) (by kernel_rfl) (by kernel_rfl) (fun _ _ _ h => h) (Or.inl ⟨by rfl, ?_⟩) (by assumption) ?_
            rotate_left
            · (intro wx hSw; have k0 : wx.cell? ⟨g, 0, none⟩ = some (.int .u64 0) := hSw.out.1.cell 0; have k1 : wx.cell? ⟨g, 1, none⟩ = some (.int .i64 (u)) := hSw.out.1.cell 1; have k2 : wx.cell? ⟨g, 2, none⟩ = some (.pointer none) := hSw.out.1.cell 2; go_simp; (try with_reducible rfl))
            (try simp only [Act.put, List.getElem_toArray, List.getElem_cons_zero, List.getElem_cons_succ, List.setIfInBounds_toArray, List.set_cons_zero, List.set_cons_succ])
            refine wpTo_take (i := 4) (v := ?_) rfl (by kernel_rfl) (by kernel_rfl) (by kernel_rfl) (by kernel_rfl) (fun _ _ _ h => h) (Or.inl ⟨by rfl, ?_⟩) (by assumption) ?_
            rotate_left
            · (intro wx hSw; go_simp; (try with_reducible rfl))
            (try simp only [Act.put, List.getElem_toArray, List.getElem_cons_zero, List.getElem_cons_succ, List.setIfInBounds_toArray, List.set_cons_zero, List.set_cons_succ])
            refine wpTo_one (i := 1) (by kernel_rfl) rfl (fun K hK => ?_)
            go_simp
            go_at_call 193
            refine (tYear_any 0 u (by decide) h0 (by omega) _).mono ?_
            rintro e wd0 ⟨rfl, hb1⟩
            have HN : Hid (NW w wd0 sg g o l s 0 u) := Lib.hid (hHeld.out.below hb1)
            clear hb1
            refine hK.out _ _ (Or.inr HN) (fun _ => ?_)
            clear hK K hHeld 
            have hHeld := HN
            clear HN
            (try simp only [Act.put, List.getElem_toArray, List.getElem_cons_zero, List.getElem_cons_succ, List.setIfInBounds_toArray, List.set_cons_zero, List.set_cons_succ])
            refine wpTo_one (i := 3) (by kernel_rfl) rfl (fun K hK => ?_)
            go_simp
            go_at_call 194
            refine (tMonth_any 0 u (by decide) h0 (by omega) _).mono ?_
            rintro e wd1 ⟨rfl, hb1⟩
            have HN : Hid (NW w wd1 sg g o l s 0 u) := Lib.hid (hHeld.out.below hb1)
            clear hb1
            refine hK.out _ _ (Or.inr HN) (fun _ => ?_)
            clear hK K hHeld 
            have hHeld := HN
            clear HN
            (try simp only [Act.put, List.getElem_toArray, List.getElem_cons_zero, List.getElem_cons_succ, List.setIfInBounds_toArray, List.set_cons_zero, List.set_cons_succ])
            refine wpTo_one (i := 5) (by kernel_rfl) rfl (fun K hK => ?_)
            go_simp
            go_at_call 195
            refine (dateMon u h0 h1 l _ hHeld.out.2.2.2.2.1).mono ?_
            rintro e we ⟨rfl, hb1⟩
            have HN : Hid (NW w we sg g o l s 0 u) := Lib.hid (hHeld.out.below hb1)
            clear hb1
            refine hK.out _ _ (Or.inr HN) (fun _ => ?_)
            clear hK K hHeld 
            have hHeld := HN
            clear HN
            (try simp only [Act.put, List.getElem_toArray, List.getElem_cons_zero, List.getElem_cons_succ, List.setIfInBounds_toArray, List.set_cons_zero, List.set_cons_succ])
            refine wpTo_one (i := 6) (by kernel_rfl) rfl (fun K hK => ?_)
            have k0 : we.cell? ⟨g, 0, none⟩ = some (.int .u64 0) := hHeld.out.1.cell 0
            have k1 : we.cell? ⟨g, 1, none⟩ = some (.int .i64 (u)) := hHeld.out.1.cell 1
            have k2 : we.cell? ⟨g, 2, none⟩ = some (.pointer none) := hHeld.out.1.cell 2
            have f0 := hHeld.out.1.free 0
            have f1 := hHeld.out.1.free 1
            have f2 := hHeld.out.1.free 2
            go_simp
            refine hK.out _ _ (Or.inl rfl) (fun _ => ?_)
            clear hK K
            (try simp only [Act.put, List.getElem_toArray, List.getElem_cons_zero, List.getElem_cons_succ, List.setIfInBounds_toArray, List.set_cons_zero, List.set_cons_succ])
            refine wpTo_done (by kernel_rfl) ?_ _
            have HN := Lib.hid (hHeld.out.store 0 (mid (mon0 u)))
            clear hHeld k0 k1 k2 f0 f1 f2
            generalize (((we.setCell ⟨g, 0, none⟩ (.int .u64 0)).setCell ⟨g, 1, none⟩ (.int .i64 (mid (mon0 u)))).setCell ⟨g, 2, none⟩ (.pointer none)) = wf at *
            have k0 : wf.cell? ⟨g, 0, none⟩ = some (.int .u64 0) := HN.out.1.cell 0
            have k1 : wf.cell? ⟨g, 1, none⟩ = some (.int .i64 (mid (mon0 u))) := HN.out.1.cell 1
            have k2 : wf.cell? ⟨g, 2, none⟩ = some (.pointer none) := HN.out.1.cell 2
            go_wp2_with fail
            refine (addMon u h0 h1 _).mono ?_
            rintro e wg ⟨rfl, hb⟩
            have HN2 := Lib.hid (HN.out.below hb)
            clear hb HN k0 k1 k2
            have HN := HN2
            clear HN2
            have k0 : wg.cell? ⟨g, 0, none⟩ = some (.int .u64 0) := HN.out.1.cell 0
            have k1 : wg.cell? ⟨g, 1, none⟩ = some (.int .i64 (mid (mon0 u))) := HN.out.1.cell 1
            have k2 : wg.cell? ⟨g, 2, none⟩ = some (.pointer none) := HN.out.1.cell 2
            have f0 := HN.out.1.free 0
            have f1 := HN.out.1.free 1
            have f2 := HN.out.1.free 2
            go_wp2_with fail
            refine (tMonth_any 0 (mid (mon1 u)) (by decide) B0 (by omega) _).mono ?_
            rintro e wh ⟨rfl, hb⟩
            have HN2 := Lib.hid ((HN.out.store 0 (mid (mon1 u))).below hb)
            clear hb HN k0 k1 k2 f0 f1 f2
            have HN := HN2
            clear HN2
            rw [HS.out.2.2.1]
            by_cases hj : nextM u = 1
            · have HJ := Lib.hid (HS.out.2.1)
              have hq : (nextM u == 1) = true := by simpa using hj
              clear hj HS HM
              go_wp2_with fail
              go_step3
              refine ⟨rfl, ⟨_, o, l, true, mid (mon1 u), HN, HJ, ⟨rfl, rfl, rfl, rfl, rfl, rfl, rfl, rfl⟩, rfl⟩, ?_⟩
              rw [mS.out, show _ = some (Value.int IntKind.i64 (mid (mon1 u))) from HN.out.1.cell 1]
              simp only [Option.getD_some, intOf]
              omega
            · have HMn := Lib.hid (HS.out.2.2.2 hj)
              have hq : (nextM u == 1) = false := by simpa using hj
              clear hj HS HM
              go_wp2_with fail
              go_roundw
              case rel => first | exact ⟨true, mid (mon1 u), rfl, HN, HMn, by omega, B0, B1⟩ | ((repeat apply Exists.intro); exact ⟨⟨true, mid (mon1 u), rfl, HN, HMn, by omega, B0, B1⟩, rfl⟩)
              case measure =>
                rw [m0.out, show _ = some (Value.int IntKind.i64 (mid (mon1 u))) from HN.out.1.cell 1]
                simp only [Option.getD_some, intOf]
                omega
          | true =>
            have HN2 : Hid (NW w wc sg g o l s 0 (mid (mon0 u))) := by rw [HM.out.at0 Hmv.out]; exact HN
            clear HN
            have HN := HN2
            clear HN2
            obtain ⟨wf, rfl⟩ : ∃ wf : World, wf = wc := ⟨_, rfl⟩
            have k0 : wf.cell? ⟨g, 0, none⟩ = some (.int .u64 0) := HN.out.1.cell 0
            have k1 : wf.cell? ⟨g, 1, none⟩ = some (.int .i64 (mid (mon0 u))) := HN.out.1.cell 1
            have k2 : wf.cell? ⟨g, 2, none⟩ = some (.pointer none) := HN.out.1.cell 2
            go_wp2_with fail
            refine (addMon u h0 h1 _).mono ?_
            rintro e wg ⟨rfl, hb⟩
            have HN2 := Lib.hid (HN.out.below hb)
            clear hb HN k0 k1 k2
            have HN := HN2
            clear HN2
            have k0 : wg.cell? ⟨g, 0, none⟩ = some (.int .u64 0) := HN.out.1.cell 0
            have k1 : wg.cell? ⟨g, 1, none⟩ = some (.int .i64 (mid (mon0 u))) := HN.out.1.cell 1
            have k2 : wg.cell? ⟨g, 2, none⟩ = some (.pointer none) := HN.out.1.cell 2
            have f0 := HN.out.1.free 0
            have f1 := HN.out.1.free 1
            have f2 := HN.out.1.free 2
            go_wp2_with fail
            refine (tMonth_any 0 (mid (mon1 u)) (by decide) B0 (by omega) _).mono ?_
            rintro e wh ⟨rfl, hb⟩
            have HN2 := Lib.hid ((HN.out.store 0 (mid (mon1 u))).below hb)
            clear hb HN k0 k1 k2 f0 f1 f2
            have HN := HN2
            clear HN2
            rw [HS.out.2.2.1]
            by_cases hj : nextM u = 1
            · have HJ := Lib.hid (HS.out.2.1)
              have hq : (nextM u == 1) = true := by simpa using hj
              clear hj HS HM
              go_wp2_with fail
              go_step3
              refine ⟨rfl, ⟨_, o, l, true, mid (mon1 u), HN, HJ, ⟨rfl, rfl, rfl, rfl, rfl, rfl, rfl, rfl⟩, rfl⟩, ?_⟩
              rw [mS.out, show _ = some (Value.int IntKind.i64 (mid (mon1 u))) from HN.out.1.cell 1]
              simp only [Option.getD_some, intOf]
              omega
            · have HMn := Lib.hid (HS.out.2.2.2 hj)
              have hq : (nextM u == 1) = false := by simpa using hj
              clear hj HS HM
              go_wp2_with fail
              go_roundw
              case rel => first | exact ⟨true, mid (mon1 u), rfl, HN, HMn, by omega, B0, B1⟩ | ((repeat apply Exists.intro); exact ⟨⟨true, mid (mon1 u), rfl, HN, HMn, by omega, B0, B1⟩, rfl⟩)
              case measure =>
                rw [m0.out, show _ = some (Value.int IntKind.i64 (mid (mon1 u))) from HN.out.1.cell 1]
                simp only [Option.getD_some, intOf]
                omega
        | true =>
          have HM2 : Hid (DInv s first (Y0 + 5) b u) := ⟨HM.out, Hmv.out⟩
          clear HM m0 Hmv
          have HM := HM2
          clear HM2
          go_wp2_with fail
          obtain ⟨woD, rfl⟩ : ∃ wo : World, wo = wc := ⟨_, rfl⟩
          go_loopw [7] (fun bv wr => ∃ (b : Bool) (u : Int), bv = .bool b ∧ Hid (NW w wr sg g o l s 0 u) ∧ Hid (DInv s first (Y0 + 5) b u) ∧ us ≤ u ∧ 0 ≤ u ∧ u < 319000000000) (fun _ wr => (1000000000000 - intOf ((wr.cell? ⟨g, 1, none⟩).getD undef)).toNat)
          case atStart => exact ⟨b, u, rfl, HN, HM, hus, h0, h1⟩
          case round =>
            clear HN HM hus h0 h1
            obtain ⟨b, u, rfl, HN, HM, hus, h0, h1⟩ := hrel
            have m0 : Hid (wr.cell? ⟨g, 1, none⟩ = some (.int .i64 u)) := HN.out.1.cell 1
            have k0 : wr.cell? ⟨g, 0, none⟩ = some (.int .u64 0) := HN.out.1.cell 0
            have k1 : wr.cell? ⟨g, 1, none⟩ = some (.int .i64 (u)) := HN.out.1.cell 1
            have k2 : wr.cell? ⟨g, 2, none⟩ = some (.pointer none) := HN.out.1.cell 2
            go_wp2_with fail
            refine (dayMatches_any sg s hok u h0 (by omega) (dayN u) (Lib.hid rfl) _ (Lib.hid HN.out.2.2.1)).mono ?_
            rintro e wc ⟨rfl, hb⟩
            have HN2 := Lib.hid (HN.out.below hb)
            clear hb HN k0 k1 k2
            have HN := HN2
            clear HN2
            obtain ⟨mv, Hmv⟩ : ∃ mv, Hid (dyOK s u = mv) := ⟨_, rfl⟩
            rw [show dayB s.dom s.dow (dayOf (dayN u)).toNat ((dayN u + 4) % 7).toNat = mv from Hmv.out]
            cases mv with
            | false =>
              have HS := Lib.hid (HM.out.step Hmv.out)
              have hlt := HS.out.1
              have B0 : 0 ≤ mid (dayN u) + 86400 := by omega
              have B1 : mid (dayN u) + 86400 < 319000000000 := yr_bound (by have := HS.out.2.1.2.2.1; omega)
              have yb := yr_bd1 h0 h1
              have a0 : 0 ≤ mid (dayN u) := by unfold mid dayN; omega
              have a1 : mid (dayN u) < 319000000000 := by unfold mid dayN; omega
              have z9 : Hid ((mid (dayN u) + 86400) % 86400 / 3600 = 0) := by show _ = _; unfold mid; omega
              cases b with
              | false =>
                go_wp2_with fail
                refine wp_region_to (S := fun w' => Hid (NW w w' sg g o l s 0 u)) 8 (by kernel_rfl) (Lib.hid HN.out.drew) (fun hHeld => ?_)
                (try simp only [Act.put, List.getElem_toArray, List.getElem_cons_zero, List.getElem_cons_succ, List.setIfInBounds_toArray, List.set_cons_zero, List.set_cons_succ])
                clear HN
                refine wpTo_take (i := 0) (v := ?_) rfl (by kernel_rfl) (by kernel_rfl) (by kernel_rfl) (by kernel_rfl) (fun _ _ _ h => h) (Or.inl ⟨by rfl, ?_⟩) (by assumption) ?_
                rotate_left
                · (intro wx hSw; have k0 : wx.cell? ⟨g, 0, none⟩ = some (.int .u64 0) := hSw.out.1.cell 0; have k1 : wx.cell? ⟨g, 1, none⟩ = some (.int .i64 (u)) := hSw.out.1.cell 1; have k2 : wx.cell? ⟨g, 2, none⟩ = some (.pointer none) := hSw.out.1.cell 2; go_simp; (try with_reducible rfl))
                (try simp only [Act.put, List.getElem_toArray, List.getElem_cons_zero, List.getElem_cons_succ, List.setIfInBounds_toArray, List.set_cons_zero, List.set_cons_succ])
                refine wpTo_take (i := 2) (v := ?_) rfl (by kernel_rfl) (by kernel_rfl) (by kernel_rfl) (by kernel_rfl) (fun _ _ _ h => h) (Or.inl ⟨by rfl, ?_⟩) (by assumption) ?_
                rotate_left
                · (intro wx hSw; have k0 : wx.cell? ⟨g, 0, none⟩ = some (.int .u64 0) := hSw.out.1.cell 0; have k1 : wx.cell? ⟨g, 1, none⟩ = some (.int .i64 (u)) := hSw.out.1.cell 1; have k2 : wx.cell? ⟨g, 2, none⟩ = some (.pointer none) := hSw.out.1.cell 2; go_simp; (try with_reducible rfl))
                (try simp only [Act.put, List.getElem_toArray, List.getElem_cons_zero, List.getElem_cons_succ, List.setIfInBounds_toArray, List.set_cons_zero, List.set_cons_succ])
                refine wpTo_take (i := 4) (v := ?_) rfl (by kernel_rfl) (by kernel_rfl) (by kernel_rfl) (by kernel_rfl) (fun _ _ _ h => h) (Or.inl ⟨by rfl, ?_⟩) (by assumption) ?_
                rotate_left
                · (intro wx hSw; have k0 : wx.cell? ⟨g, 0, none⟩ = some (.int .u64 0) := hSw.out.1.cell 0; have k1 : wx.cell? ⟨g, 1, none⟩ = some (.int .i64 (u)) := hSw.out.1.cell 1; have k2 : wx.cell? ⟨g, 2, none⟩ = some (.pointer none) := hSw.out.1.cell 2; go_simp; (try with_reducible rfl))
                (try simp only [Act.put, List.getElem_toArray, List.getElem_cons_zero, List.getElem_cons_succ, List.setIfInBounds_toArray, List.set_cons_zero, List.set_cons_succ])
                refine wpTo_take (i := 6) (v := ?_) rfl (by kernel_rfl) (by kernel_rfl) (by kernel_rfl) (by kernel_rfl) (fun _ _ _ h => h) (Or.inl ⟨by rfl, ?_⟩) (by assumption) ?_
                rotate_left
                · (intro wx hSw; go_simp; (try with_reducible rfl))
                (try simp only [Act.put, List.getElem_toArray, List.getElem_cons_zero, List.getElem_cons_succ, List.setIfInBounds_toArray, List.set_cons_zero, List.set_cons_succ])
                refine wpTo_one (i := 1) (by kernel_rfl) rfl (fun K hK => ?_)
                go_simp
                go_at_call 193
                refine (tYear_any 0 u (by decide) h0 (by omega) _).mono ?_
                rintro e wd0 ⟨rfl, hb1⟩
                have HN : Hid (NW w wd0 sg g o l s 0 u) := Lib.hid (hHeld.out.below hb1)
                clear hb1
                refine hK.out _ _ (Or.inr HN) (fun _ => ?_)
                clear hK K hHeld 
                have hHeld := HN
                clear HN
                (try simp only [Act.put, List.getElem_toArray, List.getElem_cons_zero, List.getElem_cons_succ, List.setIfInBounds_toArray, List.set_cons_zero, List.set_cons_succ])
                refine wpTo_one (i := 3) (by kernel_rfl) rfl (fun K hK => ?_)
                go_simp
                go_at_call 194
                refine (tMonth_any 0 u (by decide) h0 (by omega) _).mono ?_
                rintro e wd1 ⟨rfl, hb1⟩
                have HN : Hid (NW w wd1 sg g o l s 0 u) := Lib.hid (hHeld.out.below hb1)
                clear hb1
                refine hK.out _ _ (Or.inr HN) (fun _ => ?_)
                clear hK K hHeld 
                have hHeld := HN
                clear HN
                (try simp only [Act.put, List.getElem_toArray, List.getElem_cons_zero, List.getElem_cons_succ, List.setIfInBounds_toArray, List.set_cons_zero, List.set_cons_succ])
                refine wpTo_one (i := 5) (by kernel_rfl) rfl (fun K hK => ?_)
                go_simp
                go_at_call 189
                refine (tDay_any 0 u (by decide) h0 (by omega) _).mono ?_
                rintro e wd2 ⟨rfl, hb1⟩
                have HN : Hid (NW w wd2 sg g o l s 0 u) := Lib.hid (hHeld.out.below hb1)
                clear hb1
                refine hK.out _ _ (Or.inr HN) (fun _ => ?_)
                clear hK K hHeld 
                have hHeld := HN
                clear HN
                (try simp only [Act.put, List.getElem_toArray, List.getElem_cons_zero, List.getElem_cons_succ, List.setIfInBounds_toArray, List.set_cons_zero, List.set_cons_succ])
                refine wpTo_one (i := 7) (by kernel_rfl) rfl (fun K hK => ?_)
                go_simp
                go_at_call 195
                refine (dateDay u h0 h1 l _ hHeld.out.2.2.2.2.1).mono ?_
                rintro e we ⟨rfl, hb1⟩
                have HN : Hid (NW w we sg g o l s 0 u) := Lib.hid (hHeld.out.below hb1)
                clear hb1
                refine hK.out _ _ (Or.inr HN) (fun _ => ?_)
                clear hK K hHeld 
                have hHeld := HN
                clear HN
                (try simp only [Act.put, List.getElem_toArray, List.getElem_cons_zero, List.getElem_cons_succ, List.setIfInBounds_toArray, List.set_cons_zero, List.set_cons_succ])
                refine wpTo_one (i := 8) (by kernel_rfl) rfl (fun K hK => ?_)
                have k0 : we.cell? ⟨g, 0, none⟩ = some (.int .u64 0) := hHeld.out.1.cell 0
                have k1 : we.cell? ⟨g, 1, none⟩ = some (.int .i64 (u)) := hHeld.out.1.cell 1
                have k2 : we.cell? ⟨g, 2, none⟩ = some (.pointer none) := hHeld.out.1.cell 2
                have f0 := hHeld.out.1.free 0
                have f1 := hHeld.out.1.free 1
                have f2 := hHeld.out.1.free 2
                go_simp
                refine hK.out _ _ (Or.inl rfl) (fun _ => ?_)
                clear hK K
                (try simp only [Act.put, List.getElem_toArray, List.getElem_cons_zero, List.getElem_cons_succ, List.setIfInBounds_toArray, List.set_cons_zero, List.set_cons_succ])
                refine wpTo_done (by kernel_rfl) ?_ _
                have HN := Lib.hid (hHeld.out.store 0 (mid (dayN u)))
                clear hHeld k0 k1 k2 f0 f1 f2
                generalize (((we.setCell ⟨g, 0, none⟩ (.int .u64 0)).setCell ⟨g, 1, none⟩ (.int .i64 (mid (dayN u)))).setCell ⟨g, 2, none⟩ (.pointer none)) = wf at *
                have k0 : wf.cell? ⟨g, 0, none⟩ = some (.int .u64 0) := HN.out.1.cell 0
                have k1 : wf.cell? ⟨g, 1, none⟩ = some (.int .i64 (mid (dayN u))) := HN.out.1.cell 1
                have k2 : wf.cell? ⟨g, 2, none⟩ = some (.pointer none) := HN.out.1.cell 2
                go_wp2_with fail
                refine (addDay (dayN u) a0 a1 _).mono ?_
                rintro e wg ⟨rfl, hb⟩
                have HN2 := Lib.hid (HN.out.below hb)
                clear hb HN k0 k1 k2
                have HN := HN2
                clear HN2
                have k0 : wg.cell? ⟨g, 0, none⟩ = some (.int .u64 0) := HN.out.1.cell 0
                have k1 : wg.cell? ⟨g, 1, none⟩ = some (.int .i64 (mid (dayN u))) := HN.out.1.cell 1
                have k2 : wg.cell? ⟨g, 2, none⟩ = some (.pointer none) := HN.out.1.cell 2
                have f0 := HN.out.1.free 0
                have f1 := HN.out.1.free 1
                have f2 := HN.out.1.free 2
                go_wp2_with fail
                refine (tHour_any 0 (mid (dayN u) + 86400) (by decide) B0 (by omega) _).mono ?_
                rintro e wh ⟨rfl, hb⟩
                have HN2 := Lib.hid ((HN.out.store 0 (mid (dayN u) + 86400)).below hb)
                clear hb HN k0 k1 k2 f0 f1 f2
                have HN := HN2
                clear HN2
                rw [z9.out]
                have k0 : wh.cell? ⟨g, 0, none⟩ = some (.int .u64 0) := HN.out.1.cell 0
                have k1 : wh.cell? ⟨g, 1, none⟩ = some (.int .i64 (mid (dayN u) + 86400)) := HN.out.1.cell 1
                have k2 : wh.cell? ⟨g, 2, none⟩ = some (.pointer none) := HN.out.1.cell 2
                go_wp2_with fail
                refine (tDay_any 0 (mid (dayN u) + 86400) (by decide) B0 (by omega) _).mono ?_
                rintro e wi ⟨rfl, hb⟩
                have HN2 := Lib.hid (HN.out.below hb)
                clear hb HN k0 k1 k2
                have HN := HN2
                clear HN2
                obtain ⟨D, HD⟩ : ∃ D, Hid (dayOf (dayN (mid (dayN u) + 86400)) = D) := ⟨_, rfl⟩
                rw [HD.out]
                by_cases hj : D = 1
                · have HJ := Lib.hid (HS.out.2.1)
                  have hq : (D == 1) = true := by simpa using hj
                  clear hj HS HM
                  go_wp2_with fail
                  go_step3
                  refine ⟨rfl, ⟨_, o, l, true, mid (dayN u) + 86400, HN, HJ, ⟨rfl, rfl, rfl, rfl, rfl, rfl, rfl, rfl⟩, rfl⟩, ?_⟩
                  rw [mS.out, show _ = some (Value.int IntKind.i64 (mid (dayN u) + 86400)) from HN.out.1.cell 1]
                  simp only [Option.getD_some, intOf]
                  omega
                · have HMn := Lib.hid (HS.out.2.2 (by rw [HD.out]; exact hj))
                  have hq : (D == 1) = false := by simpa using hj
                  clear hj HS HM
                  go_wp2_with fail
                  go_roundw
                  case rel => first | exact ⟨true, mid (dayN u) + 86400, rfl, HN, HMn, by omega, B0, B1⟩ | ((repeat apply Exists.intro); exact ⟨⟨true, mid (dayN u) + 86400, rfl, HN, HMn, by omega, B0, B1⟩, rfl⟩)
                  case measure =>
                    rw [m0.out, show _ = some (Value.int IntKind.i64 (mid (dayN u) + 86400)) from HN.out.1.cell 1]
                    simp only [Option.getD_some, intOf]
                    omega
              | true =>
                have HN2 : Hid (NW w wc sg g o l s 0 (mid (dayN u))) := by rw [HM.out.at0 Hmv.out]; exact HN
                clear HN
                have HN := HN2
                clear HN2
                obtain ⟨wf, rfl⟩ : ∃ wf : World, wf = wc := ⟨_, rfl⟩
                have k0 : wf.cell? ⟨g, 0, none⟩ = some (.int .u64 0) := HN.out.1.cell 0
                have k1 : wf.cell? ⟨g, 1, none⟩ = some (.int .i64 (mid (dayN u))) := HN.out.1.cell 1
                have k2 : wf.cell? ⟨g, 2, none⟩ = some (.pointer none) := HN.out.1.cell 2
                go_wp2_with fail
                refine (addDay (dayN u) a0 a1 _).mono ?_
                rintro e wg ⟨rfl, hb⟩
                have HN2 := Lib.hid (HN.out.below hb)
                clear hb HN k0 k1 k2
                have HN := HN2
                clear HN2
                have k0 : wg.cell? ⟨g, 0, none⟩ = some (.int .u64 0) := HN.out.1.cell 0
                have k1 : wg.cell? ⟨g, 1, none⟩ = some (.int .i64 (mid (dayN u))) := HN.out.1.cell 1
                have k2 : wg.cell? ⟨g, 2, none⟩ = some (.pointer none) := HN.out.1.cell 2
                have f0 := HN.out.1.free 0
                have f1 := HN.out.1.free 1
                have f2 := HN.out.1.free 2
                go_wp2_with fail
                refine (tHour_any 0 (mid (dayN u) + 86400) (by decide) B0 (by omega) _).mono ?_
                rintro e wh ⟨rfl, hb⟩
                have HN2 := Lib.hid ((HN.out.store 0 (mid (dayN u) + 86400)).below hb)
                clear hb HN k0 k1 k2 f0 f1 f2
                have HN := HN2
                clear HN2
                rw [z9.out]
                have k0 : wh.cell? ⟨g, 0, none⟩ = some (.int .u64 0) := HN.out.1.cell 0
                have k1 : wh.cell? ⟨g, 1, none⟩ = some (.int .i64 (mid (dayN u) + 86400)) := HN.out.1.cell 1
                have k2 : wh.cell? ⟨g, 2, none⟩ = some (.pointer none) := HN.out.1.cell 2
                go_wp2_with fail
                refine (tDay_any 0 (mid (dayN u) + 86400) (by decide) B0 (by omega) _).mono ?_
                rintro e wi ⟨rfl, hb⟩
                have HN2 := Lib.hid (HN.out.below hb)
                clear hb HN k0 k1 k2
                have HN := HN2
                clear HN2
                obtain ⟨D, HD⟩ : ∃ D, Hid (dayOf (dayN (mid (dayN u) + 86400)) = D) := ⟨_, rfl⟩
                rw [HD.out]
                by_cases hj : D = 1
                · have HJ := Lib.hid (HS.out.2.1)
                  have hq : (D == 1) = true := by simpa using hj
                  clear hj HS HM
                  go_wp2_with fail
                  go_step3
                  refine ⟨rfl, ⟨_, o, l, true, mid (dayN u) + 86400, HN, HJ, ⟨rfl, rfl, rfl, rfl, rfl, rfl, rfl, rfl⟩, rfl⟩, ?_⟩
                  rw [mS.out, show _ = some (Value.int IntKind.i64 (mid (dayN u) + 86400)) from HN.out.1.cell 1]
                  simp only [Option.getD_some, intOf]
                  omega
                · have HMn := Lib.hid (HS.out.2.2 (by rw [HD.out]; exact hj))
                  have hq : (D == 1) = false := by simpa using hj
                  clear hj HS HM
                  go_wp2_with fail
                  go_roundw
                  case rel => first | exact ⟨true, mid (dayN u) + 86400, rfl, HN, HMn, by omega, B0, B1⟩ | ((repeat apply Exists.intro); exact ⟨⟨true, mid (dayN u) + 86400, rfl, HN, HMn, by omega, B0, B1⟩, rfl⟩)
                  case measure =>
                    rw [m0.out, show _ = some (Value.int IntKind.i64 (mid (dayN u) + 86400)) from HN.out.1.cell 1]
                    simp only [Option.getD_some, intOf]
                    omega
            | true =>
              have HM2 : Hid (HInv s first (Y0 + 5) b u) := ⟨HM.out, Hmv.out⟩
              clear HM m0 Hmv
              have HM := HM2
              clear HM2
              go_wp2_with fail
              obtain ⟨woH, rfl⟩ : ∃ wo : World, wo = wc := ⟨_, rfl⟩
              go_loopw [7] (fun bv wr => ∃ (b : Bool) (u : Int), bv = .bool b ∧ Hid (NW w wr sg g o l s 0 u) ∧ Hid (HInv s first (Y0 + 5) b u) ∧ us ≤ u ∧ 0 ≤ u ∧ u < 319000000000) (fun _ wr => (1000000000000 - intOf ((wr.cell? ⟨g, 1, none⟩).getD undef)).toNat)
              case atStart => exact ⟨b, u, rfl, HN, HM, hus, h0, h1⟩
              case round =>
                clear HN HM hus h0 h1
                obtain ⟨b, u, rfl, HN, HM, hus, h0, h1⟩ := hrel
                have m0 : Hid (wr.cell? ⟨g, 1, none⟩ = some (.int .i64 u)) := HN.out.1.cell 1
                go_wp2_with fail
                refine wp_region_held_drew (S := fun w' => Hid (NW w w' sg g o l s 0 u)) (by kernel_rfl) (Lib.hid HN.out.drew) (fun hHeld => ?_)
                (try simp only [Act.put, List.getElem_toArray, List.getElem_cons_zero, List.getElem_cons_succ, List.setIfInBounds_toArray, List.set_cons_zero, List.set_cons_succ])
                clear HN
                refine wpAnyH_take (i := 0) (v := ?_) rfl (by kernel_rfl) (by kernel_rfl) (by kernel_rfl) (fun _ _ _ h => h) (Or.inl ⟨by rfl, ?_⟩) (by assumption) ?_
                rotate_left
                · (intro wx hSw; have k0 : wx.cell? ⟨g, 0, none⟩ = some (.int .u64 0) := hSw.out.1.cell 0; have k1 : wx.cell? ⟨g, 1, none⟩ = some (.int .i64 (u)) := hSw.out.1.cell 1; have k2 : wx.cell? ⟨g, 2, none⟩ = some (.pointer none) := hSw.out.1.cell 2; go_simp; (try with_reducible rfl))
                (try simp only [Act.put, List.getElem_toArray, List.getElem_cons_zero, List.getElem_cons_succ, List.setIfInBounds_toArray, List.set_cons_zero, List.set_cons_succ])
                refine wpAnyH_take (i := 4) (v := ?_) rfl (by kernel_rfl) (by kernel_rfl) (by kernel_rfl) (fun _ _ _ h => h) (Or.inl ⟨by rfl, ?_⟩) (by assumption) ?_
                rotate_left
                · (intro wx hSw; go_simp; (try with_reducible rfl))
                (try simp only [Act.put, List.getElem_toArray, List.getElem_cons_zero, List.getElem_cons_succ, List.setIfInBounds_toArray, List.set_cons_zero, List.set_cons_succ])
                refine wpAnyH_take (i := 5) (v := ?_) rfl (by kernel_rfl) (by kernel_rfl) (by kernel_rfl) (fun _ _ _ h => h) (Or.inl ⟨by rfl, ?_⟩) (by assumption) ?_
                rotate_left
                · (intro wx hSw; go_simp; (try with_reducible rfl))
                (try simp only [Act.put, List.getElem_toArray, List.getElem_cons_zero, List.getElem_cons_succ, List.setIfInBounds_toArray, List.set_cons_zero, List.set_cons_succ])
                refine wpAnyH_take (i := 6) (v := ?_) rfl (by kernel_rfl) (by kernel_rfl) (by kernel_rfl) (fun _ _ _ h => h) (Or.inl ⟨by rfl, ?_⟩) (by assumption) ?_
                rotate_left
                · (intro wx hSw; go_simp; (try with_reducible rfl))
                (try simp only [Act.put, List.getElem_toArray, List.getElem_cons_zero, List.getElem_cons_succ, List.setIfInBounds_toArray, List.set_cons_zero, List.set_cons_succ])
                refine wpAnyH_take (i := 7) (v := ?_) rfl (by kernel_rfl) (by kernel_rfl) (by kernel_rfl) (fun _ _ _ h => h) (Or.inl ⟨by rfl, ?_⟩) (by assumption) ?_
                rotate_left
                · (intro wx hSw; have q : wx.cell? ⟨sg, 2, none⟩ = some (.int .u64 s.ho) := hSw.out.2.2.1.cell 2; go_simp; (try with_reducible rfl))
                (try simp only [Act.put, List.getElem_toArray, List.getElem_cons_zero, List.getElem_cons_succ, List.setIfInBounds_toArray, List.set_cons_zero, List.set_cons_succ])
                refine wpAnyH_ready (rs := [1]) (by kernel_rfl) (by simp) ?_
                refine (AllReadyH.cons rfl (fun K hK => ?_) AllReadyH.nil)
                go_simp
                go_at_call 198
                refine (tHour_any 0 u (by decide) h0 (by omega) _).mono ?_
                rintro e wc ⟨rfl, hb1⟩
                have HN : Hid (NW w wc sg g o l s 0 u) := Lib.hid (hHeld.out.below hb1)
                clear hb1
                refine hK.out _ _ HN (fun hH2 => ?_)
                clear hK K hHeld 
                have hHeld := hH2
                clear hH2
                (try simp only [Act.put, List.getElem_toArray, List.getElem_cons_zero, List.getElem_cons_succ, List.setIfInBounds_toArray, List.set_cons_zero, List.set_cons_succ])
                refine wpAnyH_take (i := 2) (v := ?_) rfl (by kernel_rfl) (by kernel_rfl) (by kernel_rfl) (fun _ _ _ h => h) (Or.inl ⟨by rfl, ?_⟩) (by assumption) ?_
                rotate_left
                · (intro wx hSw; go_simp; (try with_reducible rfl))
                (try simp only [Act.put, List.getElem_toArray, List.getElem_cons_zero, List.getElem_cons_succ, List.setIfInBounds_toArray, List.set_cons_zero, List.set_cons_succ])
                refine wpAnyH_take (i := 3) (v := ?_) rfl (by kernel_rfl) (by kernel_rfl) (by kernel_rfl) (fun _ _ _ h => h) (Or.inl ⟨by rfl, ?_⟩) (by assumption) ?_
                rotate_left
                · (intro wx hSw; go_simp; (try with_reducible rfl))
                (try simp only [Act.put, List.getElem_toArray, List.getElem_cons_zero, List.getElem_cons_succ, List.setIfInBounds_toArray, List.set_cons_zero, List.set_cons_succ])
                refine wpAnyH_take (i := 8) (v := ?_) rfl (by kernel_rfl) (by kernel_rfl) (by kernel_rfl) (fun _ _ _ h => h) (Or.inl ⟨by rfl, ?_⟩) (by assumption) ?_
                rotate_left
                · (intro wx hSw; go_simp; (try with_reducible rfl))
                (try simp only [Act.put, List.getElem_toArray, List.getElem_cons_zero, List.getElem_cons_succ, List.setIfInBounds_toArray, List.set_cons_zero, List.set_cons_succ])
                refine wpAnyH_take (i := 9) (v := ?_) rfl (by kernel_rfl) (by kernel_rfl) (by kernel_rfl) (fun _ _ _ h => h) (Or.inl ⟨by rfl, ?_⟩) (by assumption) ?_
                rotate_left
                · (intro wx hSw; go_simp; (try with_reducible rfl))
                (try simp only [Act.put, List.getElem_toArray, List.getElem_cons_zero, List.getElem_cons_succ, List.setIfInBounds_toArray, List.set_cons_zero, List.set_cons_succ])
                refine wpAnyH_done (by kernel_rfl) ?_ _
                clear hHeld
                rw [bitZero _ (by omega) (by omega) _ hok.out.2.2.1]
                obtain ⟨mv, Hmv⟩ : ∃ mv, Hid (hoOK s u = mv) := ⟨_, rfl⟩
                rw [show s.ho.testBit (u % 86400 / 3600).toNat = mv from Hmv.out]
                cases mv with
                | false =>
                  have HS := Lib.hid (HM.out.step Hmv.out)
                  have hlt := HS.out.1
                  have B0 : 0 ≤ u - u % 3600 + 3600 := by omega
                  have B1 : u - u % 3600 + 3600 < 319000000000 := yr_bound (by have := HS.out.2.1.2.2.1; omega)
                  have yb := yr_bd1 h0 h1
                  cases b with
                  | false =>
                    go_wp2_with fail
                    refine wp_region_to (S := fun w' => Hid (NW w w' sg g o l s 0 u)) 10 (by kernel_rfl) (Lib.hid HN.out.drew) (fun hHeld => ?_)
                    (try simp only [Act.put, List.getElem_toArray, List.getElem_cons_zero, List.getElem_cons_succ, List.setIfInBounds_toArray, List.set_cons_zero, List.set_cons_succ])
                    clear HN
                    refine wpTo_take (i := 0) (v := ?_) rfl (by kernel_rfl) (by kernel_rfl) (by kernel_rfl) (by kernel_rfl) (fun _ _ _ h => h) (Or.inl ⟨by rfl, ?_⟩) (by assumption) ?_
                    rotate_left
                    · (intro wx hSw; have k0 : wx.cell? ⟨g, 0, none⟩ = some (.int .u64 0) := hSw.out.1.cell 0; have k1 : wx.cell? ⟨g, 1, none⟩ = some (.int .i64 (u)) := hSw.out.1.cell 1; have k2 : wx.cell? ⟨g, 2, none⟩ = some (.pointer none) := hSw.out.1.cell 2; go_simp; (try with_reducible rfl))
                    (try simp only [Act.put, List.getElem_toArray, List.getElem_cons_zero, List.getElem_cons_succ, List.setIfInBounds_toArray, List.set_cons_zero, List.set_cons_succ])
                    refine wpTo_take (i := 2) (v := ?_) rfl (by kernel_rfl) (by kernel_rfl) (by kernel_rfl) (by kernel_rfl) (fun _ _ _ h => h) (Or.inl ⟨by rfl, ?_⟩) (by assumption) ?_
                    rotate_left
                    · (intro wx hSw; have k0 : wx.cell? ⟨g, 0, none⟩ = some (.int .u64 0) := hSw.out.1.cell 0; have k1 : wx.cell? ⟨g, 1, none⟩ = some (.int .i64 (u)) := hSw.out.1.cell 1; have k2 : wx.cell? ⟨g, 2, none⟩ = some (.pointer none) := hSw.out.1.cell 2; go_simp; (try with_reducible rfl))
                    (try simp only [Act.put, List.getElem_toArray, List.getElem_cons_zero, List.getElem_cons_succ, List.setIfInBounds_toArray, List.set_cons_zero, List.set_cons_succ])
                    refine wpTo_take (i := 4) (v := ?_) rfl (by kernel_rfl) (by kernel_rfl) (by kernel_rfl) (by kernel_rfl) (fun _ _ _ h => h) (Or.inl ⟨by rfl, ?_⟩) (by assumption) ?_
                    rotate_left
                    · (intro wx hSw; have k0 : wx.cell? ⟨g, 0, none⟩ = some (.int .u64 0) := hSw.out.1.cell 0; have k1 : wx.cell? ⟨g, 1, none⟩ = some (.int .i64 (u)) := hSw.out.1.cell 1; have k2 : wx.cell? ⟨g, 2, none⟩ = some (.pointer none) := hSw.out.1.cell 2; go_simp; (try with_reducible rfl))
                    (try simp only [Act.put, List.getElem_toArray, List.getElem_cons_zero, List.getElem_cons_succ, List.setIfInBounds_toArray, List.set_cons_zero, List.set_cons_succ])
                    refine wpTo_take (i := 6) (v := ?_) rfl (by kernel_rfl) (by kernel_rfl) (by kernel_rfl) (by kernel_rfl) (fun _ _ _ h => h) (Or.inl ⟨by rfl, ?_⟩) (by assumption) ?_
                    rotate_left
                    · (intro wx hSw; have k0 : wx.cell? ⟨g, 0, none⟩ = some (.int .u64 0) := hSw.out.1.cell 0; have k1 : wx.cell? ⟨g, 1, none⟩ = some (.int .i64 (u)) := hSw.out.1.cell 1; have k2 : wx.cell? ⟨g, 2, none⟩ = some (.pointer none) := hSw.out.1.cell 2; go_simp; (try with_reducible rfl))
                    (try simp only [Act.put, List.getElem_toArray, List.getElem_cons_zero, List.getElem_cons_succ, List.setIfInBounds_toArray, List.set_cons_zero, List.set_cons_succ])
                    refine wpTo_take (i := 8) (v := ?_) rfl (by kernel_rfl) (by kernel_rfl) (by kernel_rfl) (by kernel_rfl) (fun _ _ _ h => h) (Or.inl ⟨by rfl, ?_⟩) (by assumption) ?_
                    rotate_left
                    · (intro wx hSw; go_simp; (try with_reducible rfl))
                    (try simp only [Act.put, List.getElem_toArray, List.getElem_cons_zero, List.getElem_cons_succ, List.setIfInBounds_toArray, List.set_cons_zero, List.set_cons_succ])
                    refine wpTo_one (i := 1) (by kernel_rfl) rfl (fun K hK => ?_)
                    go_simp
                    go_at_call 193
                    refine (tYear_any 0 u (by decide) h0 (by omega) _).mono ?_
                    rintro e wd0 ⟨rfl, hb1⟩
                    have HN : Hid (NW w wd0 sg g o l s 0 u) := Lib.hid (hHeld.out.below hb1)
                    clear hb1
                    refine hK.out _ _ (Or.inr HN) (fun _ => ?_)
                    clear hK K hHeld 
                    have hHeld := HN
                    clear HN
                    (try simp only [Act.put, List.getElem_toArray, List.getElem_cons_zero, List.getElem_cons_succ, List.setIfInBounds_toArray, List.set_cons_zero, List.set_cons_succ])
                    refine wpTo_one (i := 3) (by kernel_rfl) rfl (fun K hK => ?_)
                    go_simp
                    go_at_call 194
                    refine (tMonth_any 0 u (by decide) h0 (by omega) _).mono ?_
                    rintro e wd1 ⟨rfl, hb1⟩
                    have HN : Hid (NW w wd1 sg g o l s 0 u) := Lib.hid (hHeld.out.below hb1)
                    clear hb1
                    refine hK.out _ _ (Or.inr HN) (fun _ => ?_)
                    clear hK K hHeld 
                    have hHeld := HN
                    clear HN
                    (try simp only [Act.put, List.getElem_toArray, List.getElem_cons_zero, List.getElem_cons_succ, List.setIfInBounds_toArray, List.set_cons_zero, List.set_cons_succ])
                    refine wpTo_one (i := 5) (by kernel_rfl) rfl (fun K hK => ?_)
                    go_simp
                    go_at_call 189
                    refine (tDay_any 0 u (by decide) h0 (by omega) _).mono ?_
                    rintro e wd2 ⟨rfl, hb1⟩
                    have HN : Hid (NW w wd2 sg g o l s 0 u) := Lib.hid (hHeld.out.below hb1)
                    clear hb1
                    refine hK.out _ _ (Or.inr HN) (fun _ => ?_)
                    clear hK K hHeld 
                    have hHeld := HN
                    clear HN
                    (try simp only [Act.put, List.getElem_toArray, List.getElem_cons_zero, List.getElem_cons_succ, List.setIfInBounds_toArray, List.set_cons_zero, List.set_cons_succ])
                    refine wpTo_one (i := 7) (by kernel_rfl) rfl (fun K hK => ?_)
                    go_simp
                    go_at_call 198
                    refine (tHour_any 0 u (by decide) h0 (by omega) _).mono ?_
                    rintro e wd3 ⟨rfl, hb1⟩
                    have HN : Hid (NW w wd3 sg g o l s 0 u) := Lib.hid (hHeld.out.below hb1)
                    clear hb1
                    refine hK.out _ _ (Or.inr HN) (fun _ => ?_)
                    clear hK K hHeld 
                    have hHeld := HN
                    clear HN
                    (try simp only [Act.put, List.getElem_toArray, List.getElem_cons_zero, List.getElem_cons_succ, List.setIfInBounds_toArray, List.set_cons_zero, List.set_cons_succ])
                    refine wpTo_one (i := 9) (by kernel_rfl) rfl (fun K hK => ?_)
                    go_simp
                    go_at_call 195
                    refine (dateHour u h0 h1 l _ hHeld.out.2.2.2.2.1).mono ?_
                    rintro e we ⟨rfl, hb1⟩
                    have HN : Hid (NW w we sg g o l s 0 u) := Lib.hid (hHeld.out.below hb1)
                    clear hb1
                    refine hK.out _ _ (Or.inr HN) (fun _ => ?_)
                    clear hK K hHeld 
                    have hHeld := HN
                    clear HN
                    (try simp only [Act.put, List.getElem_toArray, List.getElem_cons_zero, List.getElem_cons_succ, List.setIfInBounds_toArray, List.set_cons_zero, List.set_cons_succ])
                    refine wpTo_one (i := 10) (by kernel_rfl) rfl (fun K hK => ?_)
                    have k0 : we.cell? ⟨g, 0, none⟩ = some (.int .u64 0) := hHeld.out.1.cell 0
                    have k1 : we.cell? ⟨g, 1, none⟩ = some (.int .i64 (u)) := hHeld.out.1.cell 1
                    have k2 : we.cell? ⟨g, 2, none⟩ = some (.pointer none) := hHeld.out.1.cell 2
                    have f0 := hHeld.out.1.free 0
                    have f1 := hHeld.out.1.free 1
                    have f2 := hHeld.out.1.free 2
                    go_simp
                    refine hK.out _ _ (Or.inl rfl) (fun _ => ?_)
                    clear hK K
                    (try simp only [Act.put, List.getElem_toArray, List.getElem_cons_zero, List.getElem_cons_succ, List.setIfInBounds_toArray, List.set_cons_zero, List.set_cons_succ])
                    refine wpTo_done (by kernel_rfl) ?_ _
                    have HN := Lib.hid (hHeld.out.store 0 (u - u % 3600))
                    clear hHeld k0 k1 k2 f0 f1 f2
                    generalize (((we.setCell ⟨g, 0, none⟩ (.int .u64 0)).setCell ⟨g, 1, none⟩ (.int .i64 (u - u % 3600))).setCell ⟨g, 2, none⟩ (.pointer none)) = wf at *
                    have k0 : wf.cell? ⟨g, 0, none⟩ = some (.int .u64 0) := HN.out.1.cell 0
                    have k1 : wf.cell? ⟨g, 1, none⟩ = some (.int .i64 (u - u % 3600)) := HN.out.1.cell 1
                    have k2 : wf.cell? ⟨g, 2, none⟩ = some (.pointer none) := HN.out.1.cell 2
                    go_wp2_with fail
                    refine (addSecs_any (u - u % 3600) 3600000000000 3600 (by omega) (by omega) (by omega) (by omega) (by omega) (by omega) _).mono ?_
                    rintro e wg ⟨rfl, hb⟩
                    have HN2 := Lib.hid (HN.out.below hb)
                    clear hb HN k0 k1 k2
                    have HN := HN2
                    clear HN2
                    have k0 : wg.cell? ⟨g, 0, none⟩ = some (.int .u64 0) := HN.out.1.cell 0
                    have k1 : wg.cell? ⟨g, 1, none⟩ = some (.int .i64 (u - u % 3600)) := HN.out.1.cell 1
                    have k2 : wg.cell? ⟨g, 2, none⟩ = some (.pointer none) := HN.out.1.cell 2
                    have f0 := HN.out.1.free 0
                    have f1 := HN.out.1.free 1
                    have f2 := HN.out.1.free 2
                    go_wp2_with fail
                    refine (tHour_any 0 (u - u % 3600 + 3600) (by decide) B0 (by omega) _).mono ?_
                    rintro e wh ⟨rfl, hb⟩
                    have HN2 := Lib.hid ((HN.out.store 0 (u - u % 3600 + 3600)).below hb)
                    clear hb HN k0 k1 k2 f0 f1 f2
                    have HN := HN2
                    clear HN2
                    obtain ⟨D, HD⟩ : ∃ D, Hid ((u - u % 3600 + 3600) % 86400 / 3600 = D) := ⟨_, rfl⟩
                    rw [HD.out]
                    by_cases hj : D = 0
                    · have HJ := Lib.hid (HS.out.2.1)
                      have hq : (D == 0) = true := by simpa using hj
                      clear hj HS HM
                      go_wp2_with fail
                      go_step3
                      refine ⟨rfl, ⟨_, o, l, true, u - u % 3600 + 3600, HN, HJ, ⟨rfl, rfl, rfl, rfl, rfl, rfl, rfl, rfl⟩, rfl⟩, ?_⟩
                      rw [mS.out, show _ = some (Value.int IntKind.i64 (u - u % 3600 + 3600)) from HN.out.1.cell 1]
                      simp only [Option.getD_some, intOf]
                      omega
                    · have HMn := Lib.hid (HS.out.2.2 (by rw [HD.out]; exact hj))
                      have hq : (D == 0) = false := by simpa using hj
                      clear hj HS HM
                      go_wp2_with fail
                      go_roundw
                      case rel => first | exact ⟨true, u - u % 3600 + 3600, rfl, HN, HMn, by omega, B0, B1⟩ | ((repeat apply Exists.intro); exact ⟨⟨true, u - u % 3600 + 3600, rfl, HN, HMn, by omega, B0, B1⟩, rfl⟩)
                      case measure =>
                        rw [m0.out, show _ = some (Value.int IntKind.i64 (u - u % 3600 + 3600)) from HN.out.1.cell 1]
                        simp only [Option.getD_some, intOf]
                        omega
                  | true =>
                    have HN2 : Hid (NW w wc sg g o l s 0 (u - u % 3600)) := by rw [HM.out.at0 Hmv.out]; exact HN
                    clear HN
                    have HN := HN2
                    clear HN2
                    obtain ⟨wf, rfl⟩ : ∃ wf : World, wf = wc := ⟨_, rfl⟩
                    have k0 : wf.cell? ⟨g, 0, none⟩ = some (.int .u64 0) := HN.out.1.cell 0
                    have k1 : wf.cell? ⟨g, 1, none⟩ = some (.int .i64 (u - u % 3600)) := HN.out.1.cell 1
                    have k2 : wf.cell? ⟨g, 2, none⟩ = some (.pointer none) := HN.out.1.cell 2
                    go_wp2_with fail
                    refine (addSecs_any (u - u % 3600) 3600000000000 3600 (by omega) (by omega) (by omega) (by omega) (by omega) (by omega) _).mono ?_
                    rintro e wg ⟨rfl, hb⟩
                    have HN2 := Lib.hid (HN.out.below hb)
                    clear hb HN k0 k1 k2
                    have HN := HN2
                    clear HN2
                    have k0 : wg.cell? ⟨g, 0, none⟩ = some (.int .u64 0) := HN.out.1.cell 0
                    have k1 : wg.cell? ⟨g, 1, none⟩ = some (.int .i64 (u - u % 3600)) := HN.out.1.cell 1
                    have k2 : wg.cell? ⟨g, 2, none⟩ = some (.pointer none) := HN.out.1.cell 2
                    have f0 := HN.out.1.free 0
                    have f1 := HN.out.1.free 1
                    have f2 := HN.out.1.free 2
                    go_wp2_with fail
                    refine (tHour_any 0 (u - u % 3600 + 3600) (by decide) B0 (by omega) _).mono ?_
                    rintro e wh ⟨rfl, hb⟩
                    have HN2 := Lib.hid ((HN.out.store 0 (u - u % 3600 + 3600)).below hb)
                    clear hb HN k0 k1 k2 f0 f1 f2
                    have HN := HN2
                    clear HN2
                    obtain ⟨D, HD⟩ : ∃ D, Hid ((u - u % 3600 + 3600) % 86400 / 3600 = D) := ⟨_, rfl⟩
                    rw [HD.out]
                    by_cases hj : D = 0
                    · have HJ := Lib.hid (HS.out.2.1)
                      have hq : (D == 0) = true := by simpa using hj
                      clear hj HS HM
                      go_wp2_with fail
                      go_step3
                      refine ⟨rfl, ⟨_, o, l, true, u - u % 3600 + 3600, HN, HJ, ⟨rfl, rfl, rfl, rfl, rfl, rfl, rfl, rfl⟩, rfl⟩, ?_⟩
                      rw [mS.out, show _ = some (Value.int IntKind.i64 (u - u % 3600 + 3600)) from HN.out.1.cell 1]
                      simp only [Option.getD_some, intOf]
                      omega
                    · have HMn := Lib.hid (HS.out.2.2 (by rw [HD.out]; exact hj))
                      have hq : (D == 0) = false := by simpa using hj
                      clear hj HS HM
                      go_wp2_with fail
                      go_roundw
                      case rel => first | exact ⟨true, u - u % 3600 + 3600, rfl, HN, HMn, by omega, B0, B1⟩ | ((repeat apply Exists.intro); exact ⟨⟨true, u - u % 3600 + 3600, rfl, HN, HMn, by omega, B0, B1⟩, rfl⟩)
                      case measure =>
                        rw [m0.out, show _ = some (Value.int IntKind.i64 (u - u % 3600 + 3600)) from HN.out.1.cell 1]
                        simp only [Option.getD_some, intOf]
                        omega
                | true =>
                  have HM2 : Hid (NInv s first (Y0 + 5) b u) := ⟨HM.out, Hmv.out⟩
                  clear HM m0 Hmv
                  have HM := HM2
                  clear HM2
                  go_wp2_with fail
                  obtain ⟨woN, rfl⟩ : ∃ wo : World, wo = wc := ⟨_, rfl⟩
                  go_loopw [7] (fun bv wr => ∃ (b : Bool) (u : Int), bv = .bool b ∧ Hid (NW w wr sg g o l s 0 u) ∧ Hid (NInv s first (Y0 + 5) b u) ∧ us ≤ u ∧ 0 ≤ u ∧ u < 319000000000) (fun _ wr => (1000000000000 - intOf ((wr.cell? ⟨g, 1, none⟩).getD undef)).toNat)
                  case atStart => exact ⟨b, u, rfl, HN, HM, hus, h0, h1⟩
                  case round =>
                    clear HN HM hus h0 h1
                    obtain ⟨b, u, rfl, HN, HM, hus, h0, h1⟩ := hrel
                    have m0 : Hid (wr.cell? ⟨g, 1, none⟩ = some (.int .i64 u)) := HN.out.1.cell 1
                    go_wp2_with fail
                    refine wp_region_held_drew (S := fun w' => Hid (NW w w' sg g o l s 0 u)) (by kernel_rfl) (Lib.hid HN.out.drew) (fun hHeld => ?_)
                    (try simp only [Act.put, List.getElem_toArray, List.getElem_cons_zero, List.getElem_cons_succ, List.setIfInBounds_toArray, List.set_cons_zero, List.set_cons_succ])
                    clear HN
                    refine wpAnyH_take (i := 0) (v := ?_) rfl (by kernel_rfl) (by kernel_rfl) (by kernel_rfl) (fun _ _ _ h => h) (Or.inl ⟨by rfl, ?_⟩) (by assumption) ?_
                    rotate_left
                    · (intro wx hSw; have k0 : wx.cell? ⟨g, 0, none⟩ = some (.int .u64 0) := hSw.out.1.cell 0; have k1 : wx.cell? ⟨g, 1, none⟩ = some (.int .i64 (u)) := hSw.out.1.cell 1; have k2 : wx.cell? ⟨g, 2, none⟩ = some (.pointer none) := hSw.out.1.cell 2; go_simp; (try with_reducible rfl))
                    (try simp only [Act.put, List.getElem_toArray, List.getElem_cons_zero, List.getElem_cons_succ, List.setIfInBounds_toArray, List.set_cons_zero, List.set_cons_succ])
                    refine wpAnyH_take (i := 4) (v := ?_) rfl (by kernel_rfl) (by kernel_rfl) (by kernel_rfl) (fun _ _ _ h => h) (Or.inl ⟨by rfl, ?_⟩) (by assumption) ?_
                    rotate_left
                    · (intro wx hSw; go_simp; (try with_reducible rfl))
                    (try simp only [Act.put, List.getElem_toArray, List.getElem_cons_zero, List.getElem_cons_succ, List.setIfInBounds_toArray, List.set_cons_zero, List.set_cons_succ])
                    refine wpAnyH_take (i := 5) (v := ?_) rfl (by kernel_rfl) (by kernel_rfl) (by kernel_rfl) (fun _ _ _ h => h) (Or.inl ⟨by rfl, ?_⟩) (by assumption) ?_
                    rotate_left
                    · (intro wx hSw; go_simp; (try with_reducible rfl))
                    (try simp only [Act.put, List.getElem_toArray, List.getElem_cons_zero, List.getElem_cons_succ, List.setIfInBounds_toArray, List.set_cons_zero, List.set_cons_succ])
                    refine wpAnyH_take (i := 6) (v := ?_) rfl (by kernel_rfl) (by kernel_rfl) (by kernel_rfl) (fun _ _ _ h => h) (Or.inl ⟨by rfl, ?_⟩) (by assumption) ?_
                    rotate_left
                    · (intro wx hSw; go_simp; (try with_reducible rfl))
                    (try simp only [Act.put, List.getElem_toArray, List.getElem_cons_zero, List.getElem_cons_succ, List.setIfInBounds_toArray, List.set_cons_zero, List.set_cons_succ])
                    refine wpAnyH_take (i := 7) (v := ?_) rfl (by kernel_rfl) (by kernel_rfl) (by kernel_rfl) (fun _ _ _ h => h) (Or.inl ⟨by rfl, ?_⟩) (by assumption) ?_
                    rotate_left
                    · (intro wx hSw; have q : wx.cell? ⟨sg, 1, none⟩ = some (.int .u64 s.mi) := hSw.out.2.2.1.cell 1; go_simp; (try with_reducible rfl))
                    (try simp only [Act.put, List.getElem_toArray, List.getElem_cons_zero, List.getElem_cons_succ, List.setIfInBounds_toArray, List.set_cons_zero, List.set_cons_succ])
                    refine wpAnyH_ready (rs := [1]) (by kernel_rfl) (by simp) ?_
                    refine (AllReadyH.cons rfl (fun K hK => ?_) AllReadyH.nil)
                    go_simp
                    go_at_call 199
                    refine (tMinute_any 0 u (by decide) h0 (by omega) _).mono ?_
                    rintro e wc ⟨rfl, hb1⟩
                    have HN : Hid (NW w wc sg g o l s 0 u) := Lib.hid (hHeld.out.below hb1)
                    clear hb1
                    refine hK.out _ _ HN (fun hH2 => ?_)
                    clear hK K hHeld 
                    have hHeld := hH2
                    clear hH2
                    (try simp only [Act.put, List.getElem_toArray, List.getElem_cons_zero, List.getElem_cons_succ, List.setIfInBounds_toArray, List.set_cons_zero, List.set_cons_succ])
                    refine wpAnyH_take (i := 2) (v := ?_) rfl (by kernel_rfl) (by kernel_rfl) (by kernel_rfl) (fun _ _ _ h => h) (Or.inl ⟨by rfl, ?_⟩) (by assumption) ?_
                    rotate_left
                    · (intro wx hSw; go_simp; (try with_reducible rfl))
                    (try simp only [Act.put, List.getElem_toArray, List.getElem_cons_zero, List.getElem_cons_succ, List.setIfInBounds_toArray, List.set_cons_zero, List.set_cons_succ])
                    refine wpAnyH_take (i := 3) (v := ?_) rfl (by kernel_rfl) (by kernel_rfl) (by kernel_rfl) (fun _ _ _ h => h) (Or.inl ⟨by rfl, ?_⟩) (by assumption) ?_
                    rotate_left
                    · (intro wx hSw; go_simp; (try with_reducible rfl))
                    (try simp only [Act.put, List.getElem_toArray, List.getElem_cons_zero, List.getElem_cons_succ, List.setIfInBounds_toArray, List.set_cons_zero, List.set_cons_succ])
                    refine wpAnyH_take (i := 8) (v := ?_) rfl (by kernel_rfl) (by kernel_rfl) (by kernel_rfl) (fun _ _ _ h => h) (Or.inl ⟨by rfl, ?_⟩) (by assumption) ?_
                    rotate_left
                    · (intro wx hSw; go_simp; (try with_reducible rfl))
                    (try simp only [Act.put, List.getElem_toArray, List.getElem_cons_zero, List.getElem_cons_succ, List.setIfInBounds_toArray, List.set_cons_zero, List.set_cons_succ])
                    refine wpAnyH_take (i := 9) (v := ?_) rfl (by kernel_rfl) (by kernel_rfl) (by kernel_rfl) (fun _ _ _ h => h) (Or.inl ⟨by rfl, ?_⟩) (by assumption) ?_
                    rotate_left
                    · (intro wx hSw; go_simp; (try with_reducible rfl))
                    (try simp only [Act.put, List.getElem_toArray, List.getElem_cons_zero, List.getElem_cons_succ, List.setIfInBounds_toArray, List.set_cons_zero, List.set_cons_succ])
                    refine wpAnyH_done (by kernel_rfl) ?_ _
                    clear hHeld
                    rw [bitZero _ (by omega) (by omega) _ hok.out.2.1]
                    obtain ⟨mv, Hmv⟩ : ∃ mv, Hid (miOK s u = mv) := ⟨_, rfl⟩
                    rw [show s.mi.testBit (u % 3600 / 60).toNat = mv from Hmv.out]
                    cases mv with
                    | false =>
                      have HS := Lib.hid (HM.out.step Hmv.out)
                      have hlt := HS.out.1
                      have B0 : 0 ≤ u - u % 60 + 60 := by omega
                      have B1 : u - u % 60 + 60 < 319000000000 := yr_bound (by have := HS.out.2.1.2.2.1; omega)
                      have yb := yr_bd1 h0 h1
                      cases b with
                      | false =>
                        have k0 : wc.cell? ⟨g, 0, none⟩ = some (.int .u64 0) := HN.out.1.cell 0
                        have k1 : wc.cell? ⟨g, 1, none⟩ = some (.int .i64 (u)) := HN.out.1.cell 1
                        have k2 : wc.cell? ⟨g, 2, none⟩ = some (.pointer none) := HN.out.1.cell 2
                        go_wp2_with fail
                        refine (truncateMin u h0 (by omega) _).mono ?_
                        rintro e we ⟨rfl, hb⟩
                        have HN2 := Lib.hid (HN.out.below hb)
                        clear hb HN k0 k1 k2
                        have HN := HN2
                        clear HN2
                        have k0 : we.cell? ⟨g, 0, none⟩ = some (.int .u64 0) := HN.out.1.cell 0
                        have k1 : we.cell? ⟨g, 1, none⟩ = some (.int .i64 (u)) := HN.out.1.cell 1
                        have k2 : we.cell? ⟨g, 2, none⟩ = some (.pointer none) := HN.out.1.cell 2
                        have f0 := HN.out.1.free 0
                        have f1 := HN.out.1.free 1
                        have f2 := HN.out.1.free 2
                        go_wp2_with fail
                        refine (addSecs_any (u - u % 60) 60000000000 60 (by omega) (by omega) (by omega) (by omega) (by omega) (by omega) _).mono ?_
                        rintro e wg ⟨rfl, hb⟩
                        have HN2 := Lib.hid ((HN.out.store 0 (u - u % 60)).below hb)
                        clear hb HN k0 k1 k2 f0 f1 f2
                        have HN := HN2
                        clear HN2
                        have k0 : wg.cell? ⟨g, 0, none⟩ = some (.int .u64 0) := HN.out.1.cell 0
                        have k1 : wg.cell? ⟨g, 1, none⟩ = some (.int .i64 (u - u % 60)) := HN.out.1.cell 1
                        have k2 : wg.cell? ⟨g, 2, none⟩ = some (.pointer none) := HN.out.1.cell 2
                        have f0 := HN.out.1.free 0
                        have f1 := HN.out.1.free 1
                        have f2 := HN.out.1.free 2
                        go_wp2_with fail
                        refine (tMinute_any 0 (u - u % 60 + 60) (by decide) B0 (by omega) _).mono ?_
                        rintro e wh ⟨rfl, hb⟩
                        have HN2 := Lib.hid ((HN.out.store 0 (u - u % 60 + 60)).below hb)
                        clear hb HN k0 k1 k2 f0 f1 f2
                        have HN := HN2
                        clear HN2
                        obtain ⟨D, HD⟩ : ∃ D, Hid ((u - u % 60 + 60) % 3600 / 60 = D) := ⟨_, rfl⟩
                        rw [HD.out]
                        by_cases hj : D = 0
                        · have HJ := Lib.hid (HS.out.2.1)
                          have hq : (D == 0) = true := by simpa using hj
                          clear hj HS HM
                          go_wp2_with fail
                          go_step3
                          refine ⟨rfl, ⟨_, o, l, true, u - u % 60 + 60, HN, HJ, ⟨rfl, rfl, rfl, rfl, rfl, rfl, rfl, rfl⟩, rfl⟩, ?_⟩
                          rw [mS.out, show _ = some (Value.int IntKind.i64 (u - u % 60 + 60)) from HN.out.1.cell 1]
                          simp only [Option.getD_some, intOf]
                          omega
                        · have HMn := Lib.hid (HS.out.2.2 (by rw [HD.out]; exact hj))
                          have hq : (D == 0) = false := by simpa using hj
                          clear hj HS HM
                          go_wp2_with fail
                          go_roundw
                          case rel => first | exact ⟨true, u - u % 60 + 60, rfl, HN, HMn, by omega, B0, B1⟩ | ((repeat apply Exists.intro); exact ⟨⟨true, u - u % 60 + 60, rfl, HN, HMn, by omega, B0, B1⟩, rfl⟩)
                          case measure =>
                            rw [m0.out, show _ = some (Value.int IntKind.i64 (u - u % 60 + 60)) from HN.out.1.cell 1]
                            simp only [Option.getD_some, intOf]
                            omega
                      | true =>
                        have HN2 : Hid (NW w wc sg g o l s 0 (u - u % 60)) := by rw [HM.out.at0]; exact HN
                        clear HN
                        have HN := HN2
                        clear HN2
                        obtain ⟨wf, rfl⟩ : ∃ wf : World, wf = wc := ⟨_, rfl⟩
                        have k0 : wf.cell? ⟨g, 0, none⟩ = some (.int .u64 0) := HN.out.1.cell 0
                        have k1 : wf.cell? ⟨g, 1, none⟩ = some (.int .i64 (u - u % 60)) := HN.out.1.cell 1
                        have k2 : wf.cell? ⟨g, 2, none⟩ = some (.pointer none) := HN.out.1.cell 2
                        go_wp2_with fail
                        refine (addSecs_any (u - u % 60) 60000000000 60 (by omega) (by omega) (by omega) (by omega) (by omega) (by omega) _).mono ?_
                        rintro e wg ⟨rfl, hb⟩
                        have HN2 := Lib.hid (HN.out.below hb)
                        clear hb HN k0 k1 k2
                        have HN := HN2
                        clear HN2
                        have k0 : wg.cell? ⟨g, 0, none⟩ = some (.int .u64 0) := HN.out.1.cell 0
                        have k1 : wg.cell? ⟨g, 1, none⟩ = some (.int .i64 (u - u % 60)) := HN.out.1.cell 1
                        have k2 : wg.cell? ⟨g, 2, none⟩ = some (.pointer none) := HN.out.1.cell 2
                        have f0 := HN.out.1.free 0
                        have f1 := HN.out.1.free 1
                        have f2 := HN.out.1.free 2
                        go_wp2_with fail
                        refine (tMinute_any 0 (u - u % 60 + 60) (by decide) B0 (by omega) _).mono ?_
                        rintro e wh ⟨rfl, hb⟩
                        have HN2 := Lib.hid ((HN.out.store 0 (u - u % 60 + 60)).below hb)
                        clear hb HN k0 k1 k2 f0 f1 f2
                        have HN := HN2
                        clear HN2
                        obtain ⟨D, HD⟩ : ∃ D, Hid ((u - u % 60 + 60) % 3600 / 60 = D) := ⟨_, rfl⟩
                        rw [HD.out]
                        by_cases hj : D = 0
                        · have HJ := Lib.hid (HS.out.2.1)
                          have hq : (D == 0) = true := by simpa using hj
                          clear hj HS HM
                          go_wp2_with fail
                          go_step3
                          refine ⟨rfl, ⟨_, o, l, true, u - u % 60 + 60, HN, HJ, ⟨rfl, rfl, rfl, rfl, rfl, rfl, rfl, rfl⟩, rfl⟩, ?_⟩
                          rw [mS.out, show _ = some (Value.int IntKind.i64 (u - u % 60 + 60)) from HN.out.1.cell 1]
                          simp only [Option.getD_some, intOf]
                          omega
                        · have HMn := Lib.hid (HS.out.2.2 (by rw [HD.out]; exact hj))
                          have hq : (D == 0) = false := by simpa using hj
                          clear hj HS HM
                          go_wp2_with fail
                          go_roundw
                          case rel => first | exact ⟨true, u - u % 60 + 60, rfl, HN, HMn, by omega, B0, B1⟩ | ((repeat apply Exists.intro); exact ⟨⟨true, u - u % 60 + 60, rfl, HN, HMn, by omega, B0, B1⟩, rfl⟩)
                          case measure =>
                            rw [m0.out, show _ = some (Value.int IntKind.i64 (u - u % 60 + 60)) from HN.out.1.cell 1]
                            simp only [Option.getD_some, intOf]
                            omega
                    | true =>
                      have HM2 : Hid (SInv s first (Y0 + 5) b u) := ⟨HM.out, Hmv.out⟩
                      clear HM m0 Hmv
                      have HM := HM2
                      clear HM2
                      go_wp2_with fail
                      have HM2 := Lib.hid HM.out.weak
                      clear HM
                      have HM := HM2
                      clear HM2
                      obtain ⟨woS, rfl⟩ : ∃ wo : World, wo = wc := ⟨_, rfl⟩
                      go_loopw [7] (fun bv wr => ∃ (b : Bool) (u : Int), bv = .bool b ∧ Hid (NW w wr sg g o l s 0 u) ∧ Hid (SInv s first (Y0 + 5) false u) ∧ us ≤ u ∧ 0 ≤ u ∧ u < 319000000000) (fun _ wr => (1000000000000 - intOf ((wr.cell? ⟨g, 1, none⟩).getD undef)).toNat)
                      case atStart => exact ⟨b, u, rfl, HN, HM, hus, h0, h1⟩
                      case round =>
                        clear HN HM hus h0 h1
                        obtain ⟨b, u, rfl, HN, HM, hus, h0, h1⟩ := hrel
                        have m0 : Hid (wr.cell? ⟨g, 1, none⟩ = some (.int .i64 u)) := HN.out.1.cell 1
                        go_wp2_with fail
                        refine wp_region_held_drew (S := fun w' => Hid (NW w w' sg g o l s 0 u)) (by kernel_rfl) (Lib.hid HN.out.drew) (fun hHeld => ?_)
                        (try simp only [Act.put, List.getElem_toArray, List.getElem_cons_zero, List.getElem_cons_succ, List.setIfInBounds_toArray, List.set_cons_zero, List.set_cons_succ])
                        clear HN
                        refine wpAnyH_take (i := 0) (v := ?_) rfl (by kernel_rfl) (by kernel_rfl) (by kernel_rfl) (fun _ _ _ h => h) (Or.inl ⟨by rfl, ?_⟩) (by assumption) ?_
                        rotate_left
                        · (intro wx hSw; have k0 : wx.cell? ⟨g, 0, none⟩ = some (.int .u64 0) := hSw.out.1.cell 0; have k1 : wx.cell? ⟨g, 1, none⟩ = some (.int .i64 (u)) := hSw.out.1.cell 1; have k2 : wx.cell? ⟨g, 2, none⟩ = some (.pointer none) := hSw.out.1.cell 2; go_simp; (try with_reducible rfl))
                        (try simp only [Act.put, List.getElem_toArray, List.getElem_cons_zero, List.getElem_cons_succ, List.setIfInBounds_toArray, List.set_cons_zero, List.set_cons_succ])
                        refine wpAnyH_take (i := 4) (v := ?_) rfl (by kernel_rfl) (by kernel_rfl) (by kernel_rfl) (fun _ _ _ h => h) (Or.inl ⟨by rfl, ?_⟩) (by assumption) ?_
                        rotate_left
                        · (intro wx hSw; go_simp; (try with_reducible rfl))
                        (try simp only [Act.put, List.getElem_toArray, List.getElem_cons_zero, List.getElem_cons_succ, List.setIfInBounds_toArray, List.set_cons_zero, List.set_cons_succ])
                        refine wpAnyH_take (i := 5) (v := ?_) rfl (by kernel_rfl) (by kernel_rfl) (by kernel_rfl) (fun _ _ _ h => h) (Or.inl ⟨by rfl, ?_⟩) (by assumption) ?_
                        rotate_left
                        · (intro wx hSw; go_simp; (try with_reducible rfl))
                        (try simp only [Act.put, List.getElem_toArray, List.getElem_cons_zero, List.getElem_cons_succ, List.setIfInBounds_toArray, List.set_cons_zero, List.set_cons_succ])
                        refine wpAnyH_take (i := 6) (v := ?_) rfl (by kernel_rfl) (by kernel_rfl) (by kernel_rfl) (fun _ _ _ h => h) (Or.inl ⟨by rfl, ?_⟩) (by assumption) ?_
                        rotate_left
                        · (intro wx hSw; go_simp; (try with_reducible rfl))
                        (try simp only [Act.put, List.getElem_toArray, List.getElem_cons_zero, List.getElem_cons_succ, List.setIfInBounds_toArray, List.set_cons_zero, List.set_cons_succ])
                        refine wpAnyH_take (i := 7) (v := ?_) rfl (by kernel_rfl) (by kernel_rfl) (by kernel_rfl) (fun _ _ _ h => h) (Or.inl ⟨by rfl, ?_⟩) (by assumption) ?_
                        rotate_left
                        · (intro wx hSw; have q : wx.cell? ⟨sg, 0, none⟩ = some (.int .u64 s.se) := hSw.out.2.2.1.cell 0; go_simp; (try with_reducible rfl))
                        (try simp only [Act.put, List.getElem_toArray, List.getElem_cons_zero, List.getElem_cons_succ, List.setIfInBounds_toArray, List.set_cons_zero, List.set_cons_succ])
                        refine wpAnyH_ready (rs := [1]) (by kernel_rfl) (by simp) ?_
                        refine (AllReadyH.cons rfl (fun K hK => ?_) AllReadyH.nil)
                        go_simp
                        go_at_call 201
                        refine (tSecond_any 0 u (by decide) h0 (by omega) _).mono ?_
                        rintro e wc ⟨rfl, hb1⟩
                        have HN : Hid (NW w wc sg g o l s 0 u) := Lib.hid (hHeld.out.below hb1)
                        clear hb1
                        refine hK.out _ _ HN (fun hH2 => ?_)
                        clear hK K hHeld 
                        have hHeld := hH2
                        clear hH2
                        (try simp only [Act.put, List.getElem_toArray, List.getElem_cons_zero, List.getElem_cons_succ, List.setIfInBounds_toArray, List.set_cons_zero, List.set_cons_succ])
                        refine wpAnyH_take (i := 2) (v := ?_) rfl (by kernel_rfl) (by kernel_rfl) (by kernel_rfl) (fun _ _ _ h => h) (Or.inl ⟨by rfl, ?_⟩) (by assumption) ?_
                        rotate_left
                        · (intro wx hSw; go_simp; (try with_reducible rfl))
                        (try simp only [Act.put, List.getElem_toArray, List.getElem_cons_zero, List.getElem_cons_succ, List.setIfInBounds_toArray, List.set_cons_zero, List.set_cons_succ])
                        refine wpAnyH_take (i := 3) (v := ?_) rfl (by kernel_rfl) (by kernel_rfl) (by kernel_rfl) (fun _ _ _ h => h) (Or.inl ⟨by rfl, ?_⟩) (by assumption) ?_
                        rotate_left
                        · (intro wx hSw; go_simp; (try with_reducible rfl))
                        (try simp only [Act.put, List.getElem_toArray, List.getElem_cons_zero, List.getElem_cons_succ, List.setIfInBounds_toArray, List.set_cons_zero, List.set_cons_succ])
                        refine wpAnyH_take (i := 8) (v := ?_) rfl (by kernel_rfl) (by kernel_rfl) (by kernel_rfl) (fun _ _ _ h => h) (Or.inl ⟨by rfl, ?_⟩) (by assumption) ?_
                        rotate_left
                        · (intro wx hSw; go_simp; (try with_reducible rfl))
                        (try simp only [Act.put, List.getElem_toArray, List.getElem_cons_zero, List.getElem_cons_succ, List.setIfInBounds_toArray, List.set_cons_zero, List.set_cons_succ])
                        refine wpAnyH_take (i := 9) (v := ?_) rfl (by kernel_rfl) (by kernel_rfl) (by kernel_rfl) (fun _ _ _ h => h) (Or.inl ⟨by rfl, ?_⟩) (by assumption) ?_
                        rotate_left
                        · (intro wx hSw; go_simp; (try with_reducible rfl))
                        (try simp only [Act.put, List.getElem_toArray, List.getElem_cons_zero, List.getElem_cons_succ, List.setIfInBounds_toArray, List.set_cons_zero, List.set_cons_succ])
                        refine wpAnyH_done (by kernel_rfl) ?_ _
                        clear hHeld
                        rw [bitZero _ (by omega) (by omega) _ hok.out.1]
                        obtain ⟨mv, Hmv⟩ : ∃ mv, Hid (seOK s u = mv) := ⟨_, rfl⟩
                        rw [show s.se.testBit (u % 60).toNat = mv from Hmv.out]
                        cases mv with
                        | false =>
                          have HS := Lib.hid (HM.out.step Hmv.out)
                          have B0 : 0 ≤ u + 1 := by omega
                          have B1 : u + 1 < 319000000000 := yr_bound (by have := yr_next u 1 (by omega) (by omega); have := HM.out.1.1.1.1.2; have := HM.out.1.1.1.1.1.2.2.1; omega)
                          cases b with
                          | false =>
                            have k0 : wc.cell? ⟨g, 0, none⟩ = some (.int .u64 0) := HN.out.1.cell 0
                            have k1 : wc.cell? ⟨g, 1, none⟩ = some (.int .i64 (u)) := HN.out.1.cell 1
                            have k2 : wc.cell? ⟨g, 2, none⟩ = some (.pointer none) := HN.out.1.cell 2
                            go_wp2_with fail
                            refine (truncateSec u h0 (by omega) _).mono ?_
                            rintro e we ⟨rfl, hb⟩
                            have HN2 := Lib.hid (HN.out.below hb)
                            clear hb HN k0 k1 k2
                            have HN := HN2
                            clear HN2
                            have k0 : we.cell? ⟨g, 0, none⟩ = some (.int .u64 0) := HN.out.1.cell 0
                            have k1 : we.cell? ⟨g, 1, none⟩ = some (.int .i64 (u)) := HN.out.1.cell 1
                            have k2 : we.cell? ⟨g, 2, none⟩ = some (.pointer none) := HN.out.1.cell 2
                            have f0 := HN.out.1.free 0
                            have f1 := HN.out.1.free 1
                            have f2 := HN.out.1.free 2
                            go_wp2_with fail
                            refine (addSecs_any (u) 1000000000 1 (by omega) (by omega) (by omega) (by omega) (by omega) (by omega) _).mono ?_
                            rintro e wg ⟨rfl, hb⟩
                            have HN2 := Lib.hid ((HN.out.store 0 (u)).below hb)
                            clear hb HN k0 k1 k2 f0 f1 f2
                            have HN := HN2
                            clear HN2
                            have k0 : wg.cell? ⟨g, 0, none⟩ = some (.int .u64 0) := HN.out.1.cell 0
                            have k1 : wg.cell? ⟨g, 1, none⟩ = some (.int .i64 (u)) := HN.out.1.cell 1
                            have k2 : wg.cell? ⟨g, 2, none⟩ = some (.pointer none) := HN.out.1.cell 2
                            have f0 := HN.out.1.free 0
                            have f1 := HN.out.1.free 1
                            have f2 := HN.out.1.free 2
                            go_wp2_with fail
                            refine (tSecond_any 0 (u + 1) (by decide) B0 (by omega) _).mono ?_
                            rintro e wh ⟨rfl, hb⟩
                            have HN2 := Lib.hid ((HN.out.store 0 (u + 1)).below hb)
                            clear hb HN k0 k1 k2 f0 f1 f2
                            have HN := HN2
                            clear HN2
                            obtain ⟨D, HD⟩ : ∃ D, Hid ((u + 1) % 60 = D) := ⟨_, rfl⟩
                            rw [HD.out]
                            by_cases hj : D = 0
                            · have HJ := Lib.hid (HS.out.1 (by rw [HD.out]; exact hj))
                              have hq : (D == 0) = true := by simpa using hj
                              clear hj HS HM
                              go_wp2_with fail
                              go_step3
                              refine ⟨rfl, ⟨_, o, l, true, u + 1, HN, HJ, ⟨rfl, rfl, rfl, rfl, rfl, rfl, rfl, rfl⟩, rfl⟩, ?_⟩
                              rw [mS.out, show _ = some (Value.int IntKind.i64 (u + 1)) from HN.out.1.cell 1]
                              simp only [Option.getD_some, intOf]
                              omega
                            · have HMn := Lib.hid (HS.out.2 (by rw [HD.out]; exact hj))
                              have hq : (D == 0) = false := by simpa using hj
                              clear hj HS HM
                              go_wp2_with fail
                              go_roundw
                              case rel => first | exact ⟨true, u + 1, rfl, HN, HMn, by omega, B0, B1⟩ | ((repeat apply Exists.intro); exact ⟨⟨true, u + 1, rfl, HN, HMn, by omega, B0, B1⟩, rfl⟩)
                              case measure =>
                                rw [m0.out, show _ = some (Value.int IntKind.i64 (u + 1)) from HN.out.1.cell 1]
                                simp only [Option.getD_some, intOf]
                                omega
                          | true =>
                            obtain ⟨wf, rfl⟩ : ∃ wf : World, wf = wc := ⟨_, rfl⟩
                            have k0 : wf.cell? ⟨g, 0, none⟩ = some (.int .u64 0) := HN.out.1.cell 0
                            have k1 : wf.cell? ⟨g, 1, none⟩ = some (.int .i64 (u)) := HN.out.1.cell 1
                            have k2 : wf.cell? ⟨g, 2, none⟩ = some (.pointer none) := HN.out.1.cell 2
                            go_wp2_with fail
                            refine (addSecs_any (u) 1000000000 1 (by omega) (by omega) (by omega) (by omega) (by omega) (by omega) _).mono ?_
                            rintro e wg ⟨rfl, hb⟩
                            have HN2 := Lib.hid (HN.out.below hb)
                            clear hb HN k0 k1 k2
                            have HN := HN2
                            clear HN2
                            have k0 : wg.cell? ⟨g, 0, none⟩ = some (.int .u64 0) := HN.out.1.cell 0
                            have k1 : wg.cell? ⟨g, 1, none⟩ = some (.int .i64 (u)) := HN.out.1.cell 1
                            have k2 : wg.cell? ⟨g, 2, none⟩ = some (.pointer none) := HN.out.1.cell 2
                            have f0 := HN.out.1.free 0
                            have f1 := HN.out.1.free 1
                            have f2 := HN.out.1.free 2
                            go_wp2_with fail
                            refine (tSecond_any 0 (u + 1) (by decide) B0 (by omega) _).mono ?_
                            rintro e wh ⟨rfl, hb⟩
                            have HN2 := Lib.hid ((HN.out.store 0 (u + 1)).below hb)
                            clear hb HN k0 k1 k2 f0 f1 f2
                            have HN := HN2
                            clear HN2
                            obtain ⟨D, HD⟩ : ∃ D, Hid ((u + 1) % 60 = D) := ⟨_, rfl⟩
                            rw [HD.out]
                            by_cases hj : D = 0
                            · have HJ := Lib.hid (HS.out.1 (by rw [HD.out]; exact hj))
                              have hq : (D == 0) = true := by simpa using hj
                              clear hj HS HM
                              go_wp2_with fail
                              go_step3
                              refine ⟨rfl, ⟨_, o, l, true, u + 1, HN, HJ, ⟨rfl, rfl, rfl, rfl, rfl, rfl, rfl, rfl⟩, rfl⟩, ?_⟩
                              rw [mS.out, show _ = some (Value.int IntKind.i64 (u + 1)) from HN.out.1.cell 1]
                              simp only [Option.getD_some, intOf]
                              omega
                            · have HMn := Lib.hid (HS.out.2 (by rw [HD.out]; exact hj))
                              have hq : (D == 0) = false := by simpa using hj
                              clear hj HS HM
                              go_wp2_with fail
                              go_roundw
                              case rel => first | exact ⟨true, u + 1, rfl, HN, HMn, by omega, B0, B1⟩ | ((repeat apply Exists.intro); exact ⟨⟨true, u + 1, rfl, HN, HMn, by omega, B0, B1⟩, rfl⟩)
                              case measure =>
                                rw [m0.out, show _ = some (Value.int IntKind.i64 (u + 1)) from HN.out.1.cell 1]
                                simp only [Option.getD_some, intOf]
                                omega
                        | true =>
                          have k0 : wc.cell? ⟨g, 0, none⟩ = some (.int .u64 0) := HN.out.1.cell 0
                          have k1 : wc.cell? ⟨g, 1, none⟩ = some (.int .i64 (u)) := HN.out.1.cell 1
                          have k2 : wc.cell? ⟨g, 2, none⟩ = some (.pointer none) := HN.out.1.cell 2
                          go_wp2_with fail
                          refine (in_any 0 u (by decide) h0 (by omega) o _ HN.out.2.2.2.1).mono ?_
                          rintro e wg ⟨rfl, hb⟩
                          have HN2 := Lib.hid (HN.out.below hb)
                          clear hb HN
                          have HN := HN2
                          clear HN2
                          clear k0 k1 k2
                          have z0 : wg.cell? ⟨g + 1, 0, none⟩ = some (.int .u64 0) := HN.out.2.1.cell 0
                          have z1 : wg.cell? ⟨g + 1, 1, none⟩ = some (.int .i64 0) := HN.out.2.1.cell 1
                          have z2 : wg.cell? ⟨g + 1, 2, none⟩ = some (.pointer none) := HN.out.2.1.cell 2
                          have f0 := HN.out.2.1.free 0
                          have f1 := HN.out.2.1.free 1
                          have f2 := HN.out.2.1.free 2
                          have HZ : Hid (NextIs s first (Y0 + 5) u) := Lib.hid (.inl ⟨HM.out.1.1.1.1.1.1.2, HM.out.done Hmv.out, HM.out.1.1.1.1.2, HM.out.1.1.1.1.1.2.1⟩)
                          have B9 := HN.out.2.2.2.2.2.1
                          have hgw := HN.out.2.2.2.2.2.2.1
                          go_wp2_with fail
                          simp only [Exit.jump]
                          refine bodyPost_ret (v := .agg #[.int .u64 0, .int .i64 u, .pointer none]) (by simp [results, Tryz.results190, go_sem, z0, z1, z2, f0, f1, f2]) rfl ⟨u, HZ, rfl, ?_⟩
                          exact (by repeat (first | (with_reducible assumption) | (with_reducible exact Below.refl _ _) | (with_reducible refine Below.setCell ?_ (by first | omega | (simp <;> omega)) _) | refine below_drewN ?_ _ | refine Below.drew ?_ | refine Below.alloc ?_ (by first | omega | (simp <;> omega)) _))
  case first =>
    intro hrest
    have HR := Lib.hid hrest
    clear hrest
    have k0 := HW0.out.1.cell 0
    have k1 := HW0.out.1.cell 1
    have k2 := HW0.out.1.cell 2
    refine wp_named ?_
    intro W0 hW0
    have HA : Hid (TmAt W0 g ns ext ∧ RowAt W0 (g + 1) 95 #[.int .u64 0, .int .i64 0, .pointer none] ∧ SchedAt W0 sg s ∧ Below w.heap.size w W0 ∧ g + 1 < W0.heap.size) := by
      rw [← hW0]
      exact ⟨HW0.out.1, HW0.out.2, S0.out, (by repeat (first | (with_reducible assumption) | (with_reducible exact Below.refl _ _) | (with_reducible refine Below.setCell ?_ (by first | omega | (simp <;> omega)) _) | refine below_drewN ?_ _ | refine Below.drew ?_ | refine Below.alloc ?_ (by first | omega | (simp <;> omega)) _)), by rw [HG.out]; simp⟩
    have hgw : w.heap.size ≤ g := by have := HG.out; omega
    have hsg : sg < g := by have := hs.out.lt; have := HG.out; omega
    clear hW0 HW0 S0 k0 k1 k2
    have k0 : W0.cell? ⟨g, 0, none⟩ = some (.int .u64 ns) := HA.out.1.cell 0
    have k1 : W0.cell? ⟨g, 1, none⟩ = some (.int .i64 ext) := HA.out.1.cell 1
    have k2 : W0.cell? ⟨g, 2, none⟩ = some (.pointer none) := HA.out.1.cell 2
    go_wp2_with fail
    refine (location_any ns ext hn he (by omega) _).mono ?_
    rintro e w1 ⟨o, ho, rfl, huo, hb1⟩
    have HB : Hid (TmAt w1 g ns ext ∧ RowAt w1 (g + 1) 95 #[.int .u64 0, .int .i64 0, .pointer none] ∧ SchedAt w1 sg s ∧ Below w.heap.size w w1 ∧ g + 1 < w1.heap.size ∧ UtcAt w1 o ∧ g + 1 < o) :=
      ⟨HA.out.1.below hb1, HA.out.2.1.below hb1, HA.out.2.2.1.below hb1, HA.out.2.2.2.1.trans (hb1.mono HA.out.2.2.2.1.size), Nat.lt_of_lt_of_le HA.out.2.2.2.2 hb1.size, huo, Nat.lt_trans HA.out.2.2.2.2 ho⟩
    clear hb1 huo ho k0 k1 k2 HA
    have k0 : w1.cell? ⟨g, 0, none⟩ = some (.int .u64 ns) := HB.out.1.cell 0
    have k1 : w1.cell? ⟨g, 1, none⟩ = some (.int .i64 ext) := HB.out.1.cell 1
    have k2 : w1.cell? ⟨g, 2, none⟩ = some (.pointer none) := HB.out.1.cell 2
    have q6 : w1.cell? ⟨sg, 6, none⟩ = some (.pointer none) := HB.out.2.2.1.cell 6
    go_wp2_with fail
    refine (location_any ns ext hn he (by omega) _).mono ?_
    rintro e w2 ⟨l, hl, rfl, hul, hb2⟩
    have HN : Hid (NW w w2 sg g o l s ns ext) :=
      ⟨HB.out.1.below hb2, HB.out.2.1.below hb2, HB.out.2.2.1.below hb2, HB.out.2.2.2.2.2.1.below hb2, hul, HB.out.2.2.2.1.trans (hb2.mono HB.out.2.2.2.1.size), hgw, hsg, HB.out.2.2.2.2.2.2, Nat.lt_trans HB.out.2.2.2.2.1 hl⟩
    clear hb2 hul hl k0 k1 k2 q6 HB
    have q6 : w2.cell? ⟨sg, 6, none⟩ = some (.pointer none) := HN.out.2.2.1.cell 6
    go_wp2_with fail
    clear q6
    have W7 : Hid (IntKind.i64.wrap (1000000000 - IntKind.i64.wrap (ns : Int)) = 1000000000 - (ns : Int)) := by show _ = _; rw [IntWalk.i64_in (ns : Int) (by omega)]; exact IntWalk.i64_in _ (by omega)
    refine wp_region_to (S := fun w' => Hid (NW w w' sg g o l s ns ext)) 6 (by kernel_rfl) (Lib.hid HN.out.drew) (fun hHeld => ?_)
    (try simp only [Act.put, List.getElem_toArray, List.getElem_cons_zero, List.getElem_cons_succ, List.setIfInBounds_toArray, List.set_cons_zero, List.set_cons_succ])
    clear HN
    refine wpTo_take (i := 0) (v := ?_) rfl (by kernel_rfl) (by kernel_rfl) (by kernel_rfl) (by kernel_rfl) (fun _ _ _ h => h) (Or.inl ⟨by rfl, ?_⟩) (by assumption) ?_
    rotate_left
    · (intro wx hSw; have k0 : wx.cell? ⟨g, 0, none⟩ = some (.int .u64 ns) := hSw.out.1.cell 0; have k1 : wx.cell? ⟨g, 1, none⟩ = some (.int .i64 ext) := hSw.out.1.cell 1; have k2 : wx.cell? ⟨g, 2, none⟩ = some (.pointer none) := hSw.out.1.cell 2; go_simp; (try with_reducible rfl))
    (try simp only [Act.put, List.getElem_toArray, List.getElem_cons_zero, List.getElem_cons_succ, List.setIfInBounds_toArray, List.set_cons_zero, List.set_cons_succ])
    refine wpTo_take (i := 1) (v := ?_) rfl (by kernel_rfl) (by kernel_rfl) (by kernel_rfl) (by kernel_rfl) (fun _ _ _ h => h) (Or.inl ⟨by rfl, ?_⟩) (by assumption) ?_
    rotate_left
    · (intro wx hSw; have k0 : wx.cell? ⟨g, 0, none⟩ = some (.int .u64 ns) := hSw.out.1.cell 0; have k1 : wx.cell? ⟨g, 1, none⟩ = some (.int .i64 ext) := hSw.out.1.cell 1; have k2 : wx.cell? ⟨g, 2, none⟩ = some (.pointer none) := hSw.out.1.cell 2; go_simp; (try with_reducible rfl))
    (try simp only [Act.put, List.getElem_toArray, List.getElem_cons_zero, List.getElem_cons_succ, List.setIfInBounds_toArray, List.set_cons_zero, List.set_cons_succ])
    refine wpTo_one (i := 2) (by kernel_rfl) rfl (fun K hK => ?_)
    go_simp
    go_at_call 115
    refine (tNanosecond_any ns ext hn he (by omega) _).mono ?_
    rintro e w3 ⟨rfl, hb3⟩
    have HN : Hid (NW w w3 sg g o l s ns ext) := hHeld.out.below hb3
    clear hb3
    refine hK.out _ _ (Or.inr HN) (fun _ => ?_)
    clear hK K hHeld 
    have hHeld := HN
    clear HN
    (try simp only [Act.put, List.getElem_toArray, List.getElem_cons_zero, List.getElem_cons_succ, List.setIfInBounds_toArray, List.set_cons_zero, List.set_cons_succ])
    refine wpTo_take (i := 3) (v := ?_) rfl (by kernel_rfl) (by kernel_rfl) (by kernel_rfl) (by kernel_rfl) (fun _ _ _ h => h) (Or.inl ⟨by rfl, ?_⟩) (by assumption) ?_
    rotate_left
    · (intro wx hSw; go_simp; (try with_reducible rfl))
    (try simp only [Act.put, List.getElem_toArray, List.getElem_cons_zero, List.getElem_cons_succ, List.setIfInBounds_toArray, List.set_cons_zero, List.set_cons_succ])
    refine wpTo_take (i := 4) (v := ?_) rfl (by kernel_rfl) (by kernel_rfl) (by kernel_rfl) (by kernel_rfl) (fun _ _ _ h => h) (Or.inl ⟨by rfl, ?_⟩) (by assumption) ?_
    rotate_left
    · (intro wx hSw; go_simp; (try with_reducible rfl))
    (try simp only [Act.put, List.getElem_toArray, List.getElem_cons_zero, List.getElem_cons_succ, List.setIfInBounds_toArray, List.set_cons_zero, List.set_cons_succ])
    refine wpTo_one (i := 5) (by kernel_rfl) rfl (fun K hK => ?_)
    go_simp
    go_at_call 192
    rw [W7.out]
    refine (addFirst_any ns ext (1000000000 - (ns : Int)) hn he (by omega) (by omega) _).mono ?_
    rintro e w4 ⟨rfl, hb4⟩
    have HN : Hid (NW w w4 sg g o l s ns ext) := hHeld.out.below hb4
    clear hb4
    refine hK.out _ _ (Or.inr HN) (fun _ => ?_)
    clear hK K hHeld 
    have hHeld := HN
    clear HN
    (try simp only [Act.put, List.getElem_toArray, List.getElem_cons_zero, List.getElem_cons_succ, List.setIfInBounds_toArray, List.set_cons_zero, List.set_cons_succ])
    refine wpTo_one (i := 6) (by kernel_rfl) rfl (fun K hK => ?_)
    have c0 := hHeld.out.1.cell 0
    have f0 := hHeld.out.1.free 0
    have c1 := hHeld.out.1.cell 1
    have f1 := hHeld.out.1.free 1
    have c2 := hHeld.out.1.cell 2
    have f2 := hHeld.out.1.free 2
    simp only [List.getElem?_toArray, List.getElem?_cons_zero, List.getElem?_cons_succ] at c0 c1 c2
    go_simp
    refine hK.out _ _ (Or.inl rfl) (fun _ => ?_)
    clear hK K
    (try simp only [Act.put, List.getElem_toArray, List.getElem_cons_zero, List.getElem_cons_succ, List.setIfInBounds_toArray, List.set_cons_zero, List.set_cons_succ])
    refine wpTo_done (by kernel_rfl) ?_ _
    have HN := Lib.hid (hHeld.out.store 0 (ext + 1))
    clear hHeld c0 c1 c2 f0 f1 f2
    generalize (((w4.setCell ⟨g, 0, none⟩ (.int .u64 0)).setCell ⟨g, 1, none⟩ (.int .i64 (ext + 1))).setCell ⟨g, 2, none⟩ (.pointer none)) = w5 at *
    have k0 : w5.cell? ⟨g, 0, none⟩ = some (.int .u64 0) := HN.out.1.cell 0
    have k1 : w5.cell? ⟨g, 1, none⟩ = some (.int .i64 (ext + 1)) := HN.out.1.cell 1
    have k2 : w5.cell? ⟨g, 2, none⟩ = some (.pointer none) := HN.out.1.cell 2
    go_wp2_with fail
    refine (tYear_any 0 (ext + 1) (by decide) (by omega) (by omega) _).mono ?_
    rintro e w6 ⟨rfl, hb⟩
    have HN2 := Lib.hid (HN.out.below hb)
    clear hb HN
    have HN := HN2
    clear HN2
    clear k0 k1 k2
    rw [HY0.out]
    have yb0 := yb0
    go_wp2_with fail
    go_step3
    rename_i hK
    refine hK _ _ ?_
    have HJ0 : Hid (JInv s first (Y0 + 5) false (ext + 1)) := by
      refine ⟨⟨by have := Hf.out; omega, by have := Hf.out; omega⟩, fun v h1 h2 => by have := Hf.out; omega, ⟨by show yearOf (dayN (ext + 1)) ≤ _; rw [HY0.out]; omega, by omega⟩, fun hb => by cases hb⟩
    exact HR.out _ _ ⟨_, o, l, false, ext + 1, HN, HJ0, ⟨rfl, rfl, rfl, rfl, rfl, rfl, rfl, rfl⟩, rfl⟩

end Go.Proofs.YtkhggefbkhdimaaGreatDoor
