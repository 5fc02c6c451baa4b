/- laws.FnCronNext. -/
import Derived.Test.YtpgclepiagfgfaaTsO
namespace Go.Proofs.Ytpgclepiagfgfaa
open Go.RowKit
set_option linter.unusedVariables false
set_option linter.unusedSimpArgs false

theorem good_parts {ev : Bool} {sec ns : Int} (h : (!ev && goodB sec ns) = true) : ev = false ∧ -62135596800 ≤ sec ∧ sec ≤ 253402300799 ∧ 0 ≤ ns ∧ ns < 1000000000 := by
  unfold goodB at h
  simp at h
  exact h
theorem first_year (sec : Int) (h0 : -62135596800 ≤ sec) (h1 : sec ≤ 253402300799) : 1 ≤ yearOf (dayN (sec + 62135596800 + 1)) ∧ yearOf (dayN (sec + 62135596800 + 1)) ≤ 10000 := by
  have a := (isDate_of (dayN (sec + 62135596800 + 1))).inYear
  unfold ystart at a
  unfold dayN at *
  omega
theorem rws0 (w : World) : Rws w w [] := ⟨fun r hr => (by cases hr), Below.refl _ _⟩
set_option maxRecDepth 100000 in
set_option maxHeartbeats 8000000 in
theorem cronNext_law (s : Sched) (hok : Hid s.ok) (ev : Bool) (dl sec ns : Int) (w : World) :
    Calls Try.prog 4 #[.agg #[.bool ev, .int .i64 dl, .int .u64 s.se, .int .u64 s.mi, .int .u64 s.ho, .int .u64 s.dom, .int .u64 s.mo, .int .u64 s.dow], .agg #[.int .i64 sec, .int .i64 ns]] w fun e w' => e = .returned (.bool true) ∧ Below w.heap.size w w' := by
  by_cases hg : (!ev && goodB sec ns) = true
  · -- a case of the statement
    obtain ⟨rfl, h0, h1, hn0, hn1⟩ := good_parts hg
    obtain ⟨ns, rfl⟩ : ∃ n : Nat, ns = n := ⟨ns.toNat, by omega⟩
    have hn : ns < 1000000000 := by omega
    obtain ⟨first, Hf⟩ : ∃ first, Hid (first = sec + 62135596800 + 1) := ⟨_, rfl⟩
    obtain ⟨Y0, HY0⟩ : ∃ Y0, Hid (yearOf (dayN (sec + 62135596800 + 1)) = Y0) := ⟨_, rfl⟩
    have yb0 : 1 ≤ Y0 ∧ Y0 ≤ 10000 := by have := first_year sec h0 h1; have := HY0.out; omega
    obtain ⟨r, hr0⟩ := nextIs_exists s first (Y0 + 5)
    have hr := Lib.hid hr0
    obtain ⟨x, b, hx⟩ : ∃ x b, Hid (ansX r = x ∧ ansB r = b) := ⟨_, _, Lib.hid ⟨rfl, rfl⟩⟩
    obtain ⟨A, hA⟩ : ∃ A, Hid (A = (fieldsL s).toArray) := ⟨_, rfl⟩
    have Hg := Lib.hid hg
    clear hr0 hg hn0 hn1
    go_enter Try.func4, Try.ntmps4
    go_wp2_with fail
    refine (case_any s false dl sec ns _).mono ?_
    rintro e w1 ⟨rfl, hb⟩
    rw [Hg.out]
    have HR0 : Hid (Rws w w1 [(w.heap.size + 1, 24, #[.int .i64 sec, .int .i64 ns]), (w.heap.size, 38, #[.bool false, .int .i64 dl, .int .u64 s.se, .int .u64 s.mi, .int .u64 s.ho, .int .u64 s.dom, .int .u64 s.mo, .int .u64 s.dow])]) := Lib.hid ((((rws0 w).alloc _ rfl #[.bool false, .int .i64 dl, .int .u64 s.se, .int .u64 s.mi, .int .u64 s.ho, .int .u64 s.dom, .int .u64 s.mo, .int .u64 s.dow] 38).alloc (w.heap.size + 1) (by simp) #[.int .i64 sec, .int .i64 ns] 24).below hb)
    clear hb
    go_wp2_with fail
    obtain ⟨L0, HL0⟩ : ∃ L0 : List (Nat × TypeId × Array Value), Hid (L0 = [(w.heap.size + 1, 24, #[.int .i64 sec, .int .i64 ns]), (w.heap.size, 38, #[.bool false, .int .i64 dl, .int .u64 s.se, .int .u64 s.mi, .int .u64 s.ho, .int .u64 s.dom, .int .u64 s.mo, .int .u64 s.dow])]) := ⟨_, rfl⟩
    rw [← HL0.out] at HR0
    refine reg_framex (fun p => [(14, .agg #[.bool false, .int .i64 dl, .int .u64 s.se, .int .u64 s.mi, .int .u64 s.ho, .int .u64 s.dom, .int .u64 s.mo, .int .u64 s.dow]), (15, .agg A), (16, .agg #[.int .i64 sec, .int .i64 ns]), (17, .agg #[.slice none 0 0, .slice none 0 0, .slice none 0 0, .slice none 0 0]), (18, .tuple #[.agg #[.int .i64 x, .int .i64 0], .bool b]), (13, .tuple #[.agg #[.int .i64 x, .int .i64 0], .bool b]), (19, .agg #[.int .i64 x, .int .i64 0]), (20, .bool b), (5, .pointer (some ⟨p, 0, none⟩)), (6, .bool b)]) (fun p w' => Rws w w' ((p, 24, #[.int .i64 x, .int .i64 0]) :: L0)) ?reg ?hq
    case reg =>
      have HFd : Hid (Rws w w1.drew L0) := Lib.hid HR0.out.drew
      refine wp_region_held_drew (S := fun w' => Hid (Rws w w' L0)) (by kernel_rfl) HFd (fun hHeld => ?_)
      generalize w1.drew = Wd at HFd hHeld ⊢
      (try simp only [Act.put, List.getElem_toArray, List.getElem_cons_zero, List.getElem_cons_succ, List.setIfInBounds_toArray, List.set_cons_zero, List.set_cons_succ])
      refine wpAnyH_take (i := 0) (v := ?_) rfl (by kernel_rfl) (by kernel_rfl) (by kernel_rfl) (fun _ _ _ h => nomatch h.1) (Or.inl ⟨by rfl, ?_⟩) (by assumption) ?_
      rotate_left
      · (intro wx hSw; have hSx := hSw.out; rw [HL0.out] at hSx; have k0 : wx.cell? ⟨w.heap.size, 0, none⟩ = some (.bool false) := hSx.at1.cell 0; have k1 : wx.cell? ⟨w.heap.size, 1, none⟩ = some (.int .i64 dl) := hSx.at1.cell 1; have k2 : wx.cell? ⟨w.heap.size, 2, none⟩ = some (.int .u64 s.se) := hSx.at1.cell 2; have k3 : wx.cell? ⟨w.heap.size, 3, none⟩ = some (.int .u64 s.mi) := hSx.at1.cell 3; have k4 : wx.cell? ⟨w.heap.size, 4, none⟩ = some (.int .u64 s.ho) := hSx.at1.cell 4; have k5 : wx.cell? ⟨w.heap.size, 5, none⟩ = some (.int .u64 s.dom) := hSx.at1.cell 5; have k6 : wx.cell? ⟨w.heap.size, 6, none⟩ = some (.int .u64 s.mo) := hSx.at1.cell 6; have k7 : wx.cell? ⟨w.heap.size, 7, none⟩ = some (.int .u64 s.dow) := hSx.at1.cell 7; go_simp; (try with_reducible rfl))
      (try simp only [Act.put, List.getElem_toArray, List.getElem_cons_zero, List.getElem_cons_succ, List.setIfInBounds_toArray, List.set_cons_zero, List.set_cons_succ])
      refine wpAnyH_take (i := 2) (v := ?_) rfl (by kernel_rfl) (by kernel_rfl) (by kernel_rfl) (fun _ _ _ h => nomatch h.1) (Or.inl ⟨by rfl, ?_⟩) (by assumption) ?_
      rotate_left
      · (intro wx hSw; have hSx := hSw.out; rw [HL0.out] at hSx; have k0 : wx.cell? ⟨w.heap.size + 1, 0, none⟩ = some (.int .i64 sec) := hSx.at0.cell 0; have k1 : wx.cell? ⟨w.heap.size + 1, 1, none⟩ = some (.int .i64 ns) := hSx.at0.cell 1; go_simp; (try with_reducible rfl))
      (try simp only [Act.put, List.getElem_toArray, List.getElem_cons_zero, List.getElem_cons_succ, List.setIfInBounds_toArray, List.set_cons_zero, List.set_cons_succ])
      refine wpAnyH_ready (rs := [1, 8]) (by kernel_rfl) (by simp) ?_
      refine (AllReadyH.cons rfl (fun K hK => ?_) (AllReadyH.cons rfl (fun K hK => ?_) AllReadyH.nil))
      · go_simp
        go_at_call 18
        refine (fieldsOf_A s hok.out A hA dl _).mono ?_
        rintro e v1 ⟨rfl, hb⟩
        have HF1 : Hid (Rws w v1 L0) := Lib.hid (HFd.out.below hb)
        clear hb HFd
        have HN : Hid (Rws w v1 L0) := Lib.hid HF1.out
        refine hK.out _ _ HN (fun hH2 => ?_)
        clear hK K hHeld
        have hHeld := hH2
        clear hH2
        (try simp only [Act.put, List.getElem_toArray, List.getElem_cons_zero, List.getElem_cons_succ, List.setIfInBounds_toArray, List.set_cons_zero, List.set_cons_succ])
        refine wpAnyH_ready (rs := [3, 8]) (by kernel_rfl) (by simp) ?_
        refine (AllReadyH.cons rfl (fun K hK => ?_) (AllReadyH.cons rfl (fun K hK => ?_) AllReadyH.nil))
        · go_simp
          go_at_call 19
          refine (cronUTC_any _).mono ?_
          rintro e v2 ⟨rfl, hb⟩
          have HF2 : Hid (Rws w v2 L0) := Lib.hid (HF1.out.below hb)
          clear hb HF1
          have HN : Hid (Rws w v2 L0) := Lib.hid HF2.out
          refine hK.out _ _ HN (fun hH2 => ?_)
          clear hK K hHeld
          have hHeld := hH2
          clear hH2
          (try simp only [Act.put, List.getElem_toArray, List.getElem_cons_zero, List.getElem_cons_succ, List.setIfInBounds_toArray, List.set_cons_zero, List.set_cons_succ])
          refine wpAnyH_ready (rs := [4, 8]) (by kernel_rfl) (by simp) ?_
          refine (AllReadyH.cons rfl (fun K hK => ?_) (AllReadyH.cons rfl (fun K hK => ?_) AllReadyH.nil))
          · go_simp
            go_at_call 17
            refine (specNext_fix s sec ns h0 h1 first Y0 Hf HY0 yb0 r x b hr hx A hA _).mono ?_
            rintro e v3 ⟨rfl, hb⟩
            have HF3 : Hid (Rws w v3 L0) := Lib.hid (HF2.out.below hb)
            clear hb HF2
            have HN : Hid (Rws w v3 L0) := Lib.hid HF3.out
            refine hK.out _ _ HN (fun hH2 => ?_)
            clear hK K hHeld
            have hHeld := hH2
            clear hH2
            (try simp only [Act.put, List.getElem_toArray, List.getElem_cons_zero, List.getElem_cons_succ, List.setIfInBounds_toArray, List.set_cons_zero, List.set_cons_succ])
            refine wpAnyH_take (i := 5) (v := ?_) rfl (by kernel_rfl) (by kernel_rfl) (by kernel_rfl) (fun _ _ _ h => nomatch h.1) (Or.inl ⟨by rfl, ?_⟩) (by assumption) ?_
            rotate_left
            · (intro wx hSw; go_simp; (try with_reducible rfl))
            (try simp only [Act.put, List.getElem_toArray, List.getElem_cons_zero, List.getElem_cons_succ, List.setIfInBounds_toArray, List.set_cons_zero, List.set_cons_succ])
            refine wpAnyH_take (i := 6) (v := ?_) rfl (by kernel_rfl) (by kernel_rfl) (by kernel_rfl) (fun _ _ _ h => nomatch h.1) (Or.inl ⟨by rfl, ?_⟩) (by assumption) ?_
            rotate_left
            · (intro wx hSw; go_simp; (try with_reducible rfl))
            (try simp only [Act.put, List.getElem_toArray, List.getElem_cons_zero, List.getElem_cons_succ, List.setIfInBounds_toArray, List.set_cons_zero, List.set_cons_succ])
            refine wpAnyH_take (i := 7) (v := ?_) rfl (by kernel_rfl) (by kernel_rfl) (by kernel_rfl) (fun _ _ _ h => nomatch h.1) (Or.inl ⟨by rfl, ?_⟩) (by assumption) ?_
            rotate_left
            · (intro wx hSw; go_simp; (try with_reducible rfl))
            (try simp only [Act.put, List.getElem_toArray, List.getElem_cons_zero, List.getElem_cons_succ, List.setIfInBounds_toArray, List.set_cons_zero, List.set_cons_succ])
            refine wpAnyH_ready (rs := [8]) (by kernel_rfl) (by simp) ?_
            refine (AllReadyH.cons rfl (fun K hK => ?_) AllReadyH.nil)
            go_simp
            obtain ⟨p4, hp⟩ : ∃ p4, p4 = v3.heap.size := ⟨_, rfl⟩
            (try rw [← hp])
            have HLp4 : Hid ((∀ r ∈ L0, r.1 < p4) ∧ w.heap.size ≤ p4) := Lib.hid ⟨by rw [hp]; exact HF3.out.lt, by rw [hp]; exact HF3.out.2.size⟩
            have HF4 : Hid (Rws w (v3.alloc (.cells #[.int .i64 0, .int .i64 0] 24)) ((p4, 24, #[.int .i64 0, .int .i64 0]) :: L0)) := Lib.hid (HF3.out.alloc p4 hp _ _)
            clear HF3 hp
            refine kHeld hK.out (W := v3.alloc (.cells #[.int .i64 0, .int .i64 0] 24)) (Lib.hid HF4.out.tail) (fun hH2 => ?_)
            clear hK K hHeld
            have hHeld := hH2
            clear hH2
            generalize v3.alloc (.cells #[.int .i64 0, .int .i64 0] 24) = a4 at hHeld HF4 ⊢
            (try simp only [Act.put, List.getElem_toArray, List.getElem_cons_zero, List.getElem_cons_succ, List.setIfInBounds_toArray, List.set_cons_zero, List.set_cons_succ])
            refine wpAnyH_ready (rs := [9]) (by kernel_rfl) (by simp) ?_
            refine (AllReadyH.cons rfl (fun K hK => ?_) AllReadyH.nil)
            have c0 : a4.cell? ⟨p4, 0, none⟩ = some (.int .i64 0) := HF4.out.at0.cell 0
            have c1 : a4.cell? ⟨p4, 1, none⟩ = some (.int .i64 0) := HF4.out.at0.cell 1
            have f0 := HF4.out.at0.free 0
            have f1 := HF4.out.at0.free 1
            have HE : Hid (Rws w ((a4.setCell ⟨p4, 0, none⟩ (.int .i64 x)).setCell ⟨p4, 1, none⟩ (.int .i64 0)) ((p4, 24, #[.int .i64 x, .int .i64 0]) :: L0)) := Lib.hid (HF4.out.set2 HLp4.out.1 HLp4.out.2 _ _)
            have HN : Hid (Rws w ((a4.setCell ⟨p4, 0, none⟩ (.int .i64 x)).setCell ⟨p4, 1, none⟩ (.int .i64 0)) L0) := Lib.hid HE.out.tail
            go_simp
            refine hK.out _ _ HN (fun hH2 => ?_)
            clear hK K hHeld
            have hHeld := hH2
            clear hH2
            (try simp only [Act.put, List.getElem_toArray, List.getElem_cons_zero, List.getElem_cons_succ, List.setIfInBounds_toArray, List.set_cons_zero, List.set_cons_succ])
            refine wpAnyH_take (i := 10) (v := ?_) rfl (by kernel_rfl) (by kernel_rfl) (by kernel_rfl) (fun _ _ _ h => nomatch h.1) (Or.inl ⟨by rfl, ?_⟩) (by assumption) ?_
            rotate_left
            · (intro wx hSw; go_simp; (try with_reducible rfl))
            (try simp only [Act.put, List.getElem_toArray, List.getElem_cons_zero, List.getElem_cons_succ, List.setIfInBounds_toArray, List.set_cons_zero, List.set_cons_succ])
            refine wpAnyH_done (by kernel_rfl) ?_ _
            exact ⟨rfl, p4, by (simp only [puts, Act.put, List.setIfInBounds_toArray, List.set_cons_zero, List.set_cons_succ]), HE.out⟩
          · go_simp
            obtain ⟨p5, hp⟩ : ∃ p5, p5 = v2.heap.size := ⟨_, rfl⟩
            (try rw [← hp])
            have HLp5 : Hid ((∀ r ∈ L0, r.1 < p5) ∧ w.heap.size ≤ p5) := Lib.hid ⟨by rw [hp]; exact HF2.out.lt, by rw [hp]; exact HF2.out.2.size⟩
            have HF5 : Hid (Rws w (v2.alloc (.cells #[.int .i64 0, .int .i64 0] 24)) ((p5, 24, #[.int .i64 0, .int .i64 0]) :: L0)) := Lib.hid (HF2.out.alloc p5 hp _ _)
            clear HF2 hp
            refine kHeld hK.out (W := v2.alloc (.cells #[.int .i64 0, .int .i64 0] 24)) (Lib.hid HF5.out.tail) (fun hH2 => ?_)
            clear hK K hHeld
            have hHeld := hH2
            clear hH2
            generalize v2.alloc (.cells #[.int .i64 0, .int .i64 0] 24) = a5 at hHeld HF5 ⊢
            (try simp only [Act.put, List.getElem_toArray, List.getElem_cons_zero, List.getElem_cons_succ, List.setIfInBounds_toArray, List.set_cons_zero, List.set_cons_succ])
            refine wpAnyH_ready (rs := [4]) (by kernel_rfl) (by simp) ?_
            refine (AllReadyH.cons rfl (fun K hK => ?_) AllReadyH.nil)
            go_simp
            go_at_call 17
            refine (specNext_fix s sec ns h0 h1 first Y0 Hf HY0 yb0 r x b hr hx A hA _).mono ?_
            rintro e v6 ⟨rfl, hb⟩
            have HF6 : Hid (Rws w v6 ((p5, 24, #[.int .i64 0, .int .i64 0]) :: L0)) := Lib.hid (HF5.out.below hb)
            clear hb HF5
            have HN : Hid (Rws w v6 L0) := Lib.hid HF6.out.tail
            refine hK.out _ _ HN (fun hH2 => ?_)
            clear hK K hHeld
            have hHeld := hH2
            clear hH2
            (try simp only [Act.put, List.getElem_toArray, List.getElem_cons_zero, List.getElem_cons_succ, List.setIfInBounds_toArray, List.set_cons_zero, List.set_cons_succ])
            refine wpAnyH_take (i := 5) (v := ?_) rfl (by kernel_rfl) (by kernel_rfl) (by kernel_rfl) (fun _ _ _ h => nomatch h.1) (Or.inl ⟨by rfl, ?_⟩) (by assumption) ?_
            rotate_left
            · (intro wx hSw; go_simp; (try with_reducible rfl))
            (try simp only [Act.put, List.getElem_toArray, List.getElem_cons_zero, List.getElem_cons_succ, List.setIfInBounds_toArray, List.set_cons_zero, List.set_cons_succ])
            refine wpAnyH_take (i := 6) (v := ?_) rfl (by kernel_rfl) (by kernel_rfl) (by kernel_rfl) (fun _ _ _ h => nomatch h.1) (Or.inl ⟨by rfl, ?_⟩) (by assumption) ?_
            rotate_left
            · (intro wx hSw; go_simp; (try with_reducible rfl))
            (try simp only [Act.put, List.getElem_toArray, List.getElem_cons_zero, List.getElem_cons_succ, List.setIfInBounds_toArray, List.set_cons_zero, List.set_cons_succ])
            refine wpAnyH_take (i := 7) (v := ?_) rfl (by kernel_rfl) (by kernel_rfl) (by kernel_rfl) (fun _ _ _ h => nomatch h.1) (Or.inl ⟨by rfl, ?_⟩) (by assumption) ?_
            rotate_left
            · (intro wx hSw; go_simp; (try with_reducible rfl))
            (try simp only [Act.put, List.getElem_toArray, List.getElem_cons_zero, List.getElem_cons_succ, List.setIfInBounds_toArray, List.set_cons_zero, List.set_cons_succ])
            refine wpAnyH_ready (rs := [9]) (by kernel_rfl) (by simp) ?_
            refine (AllReadyH.cons rfl (fun K hK => ?_) AllReadyH.nil)
            have c0 : v6.cell? ⟨p5, 0, none⟩ = some (.int .i64 0) := HF6.out.at0.cell 0
            have c1 : v6.cell? ⟨p5, 1, none⟩ = some (.int .i64 0) := HF6.out.at0.cell 1
            have f0 := HF6.out.at0.free 0
            have f1 := HF6.out.at0.free 1
            have HE : Hid (Rws w ((v6.setCell ⟨p5, 0, none⟩ (.int .i64 x)).setCell ⟨p5, 1, none⟩ (.int .i64 0)) ((p5, 24, #[.int .i64 x, .int .i64 0]) :: L0)) := Lib.hid (HF6.out.set2 HLp5.out.1 HLp5.out.2 _ _)
            have HN : Hid (Rws w ((v6.setCell ⟨p5, 0, none⟩ (.int .i64 x)).setCell ⟨p5, 1, none⟩ (.int .i64 0)) L0) := Lib.hid HE.out.tail
            go_simp
            refine hK.out _ _ HN (fun hH2 => ?_)
            clear hK K hHeld
            have hHeld := hH2
            clear hH2
            (try simp only [Act.put, List.getElem_toArray, List.getElem_cons_zero, List.getElem_cons_succ, List.setIfInBounds_toArray, List.set_cons_zero, List.set_cons_succ])
            refine wpAnyH_take (i := 10) (v := ?_) rfl (by kernel_rfl) (by kernel_rfl) (by kernel_rfl) (fun _ _ _ h => nomatch h.1) (Or.inl ⟨by rfl, ?_⟩) (by assumption) ?_
            rotate_left
            · (intro wx hSw; go_simp; (try with_reducible rfl))
            (try simp only [Act.put, List.getElem_toArray, List.getElem_cons_zero, List.getElem_cons_succ, List.setIfInBounds_toArray, List.set_cons_zero, List.set_cons_succ])
            refine wpAnyH_done (by kernel_rfl) ?_ _
            exact ⟨rfl, p5, by (simp only [puts, Act.put, List.setIfInBounds_toArray, List.set_cons_zero, List.set_cons_succ]), HE.out⟩
        · go_simp
          obtain ⟨p7, hp⟩ : ∃ p7, p7 = v1.heap.size := ⟨_, rfl⟩
          (try rw [← hp])
          have HLp7 : Hid ((∀ r ∈ L0, r.1 < p7) ∧ w.heap.size ≤ p7) := Lib.hid ⟨by rw [hp]; exact HF1.out.lt, by rw [hp]; exact HF1.out.2.size⟩
          have HF7 : Hid (Rws w (v1.alloc (.cells #[.int .i64 0, .int .i64 0] 24)) ((p7, 24, #[.int .i64 0, .int .i64 0]) :: L0)) := Lib.hid (HF1.out.alloc p7 hp _ _)
          clear HF1 hp
          refine kHeld hK.out (W := v1.alloc (.cells #[.int .i64 0, .int .i64 0] 24)) (Lib.hid HF7.out.tail) (fun hH2 => ?_)
          clear hK K hHeld
          have hHeld := hH2
          clear hH2
          generalize v1.alloc (.cells #[.int .i64 0, .int .i64 0] 24) = a7 at hHeld HF7 ⊢
          (try simp only [Act.put, List.getElem_toArray, List.getElem_cons_zero, List.getElem_cons_succ, List.setIfInBounds_toArray, List.set_cons_zero, List.set_cons_succ])
          refine wpAnyH_ready (rs := [3]) (by kernel_rfl) (by simp) ?_
          refine (AllReadyH.cons rfl (fun K hK => ?_) AllReadyH.nil)
          go_simp
          go_at_call 19
          refine (cronUTC_any _).mono ?_
          rintro e v8 ⟨rfl, hb⟩
          have HF8 : Hid (Rws w v8 ((p7, 24, #[.int .i64 0, .int .i64 0]) :: L0)) := Lib.hid (HF7.out.below hb)
          clear hb HF7
          have HN : Hid (Rws w v8 L0) := Lib.hid HF8.out.tail
          refine hK.out _ _ HN (fun hH2 => ?_)
          clear hK K hHeld
          have hHeld := hH2
          clear hH2
          (try simp only [Act.put, List.getElem_toArray, List.getElem_cons_zero, List.getElem_cons_succ, List.setIfInBounds_toArray, List.set_cons_zero, List.set_cons_succ])
          refine wpAnyH_ready (rs := [4]) (by kernel_rfl) (by simp) ?_
          refine (AllReadyH.cons rfl (fun K hK => ?_) AllReadyH.nil)
          go_simp
          go_at_call 17
          refine (specNext_fix s sec ns h0 h1 first Y0 Hf HY0 yb0 r x b hr hx A hA _).mono ?_
          rintro e v9 ⟨rfl, hb⟩
          have HF9 : Hid (Rws w v9 ((p7, 24, #[.int .i64 0, .int .i64 0]) :: L0)) := Lib.hid (HF8.out.below hb)
          clear hb HF8
          have HN : Hid (Rws w v9 L0) := Lib.hid HF9.out.tail
          refine hK.out _ _ HN (fun hH2 => ?_)
          clear hK K hHeld
          have hHeld := hH2
          clear hH2
          (try simp only [Act.put, List.getElem_toArray, List.getElem_cons_zero, List.getElem_cons_succ, List.setIfInBounds_toArray, List.set_cons_zero, List.set_cons_succ])
          refine wpAnyH_take (i := 5) (v := ?_) rfl (by kernel_rfl) (by kernel_rfl) (by kernel_rfl) (fun _ _ _ h => nomatch h.1) (Or.inl ⟨by rfl, ?_⟩) (by assumption) ?_
          rotate_left
          · (intro wx hSw; go_simp; (try with_reducible rfl))
          (try simp only [Act.put, List.getElem_toArray, List.getElem_cons_zero, List.getElem_cons_succ, List.setIfInBounds_toArray, List.set_cons_zero, List.set_cons_succ])
          refine wpAnyH_take (i := 6) (v := ?_) rfl (by kernel_rfl) (by kernel_rfl) (by kernel_rfl) (fun _ _ _ h => nomatch h.1) (Or.inl ⟨by rfl, ?_⟩) (by assumption) ?_
          rotate_left
          · (intro wx hSw; go_simp; (try with_reducible rfl))
          (try simp only [Act.put, List.getElem_toArray, List.getElem_cons_zero, List.getElem_cons_succ, List.setIfInBounds_toArray, List.set_cons_zero, List.set_cons_succ])
          refine wpAnyH_take (i := 7) (v := ?_) rfl (by kernel_rfl) (by kernel_rfl) (by kernel_rfl) (fun _ _ _ h => nomatch h.1) (Or.inl ⟨by rfl, ?_⟩) (by assumption) ?_
          rotate_left
          · (intro wx hSw; go_simp; (try with_reducible rfl))
          (try simp only [Act.put, List.getElem_toArray, List.getElem_cons_zero, List.getElem_cons_succ, List.setIfInBounds_toArray, List.set_cons_zero, List.set_cons_succ])
          refine wpAnyH_ready (rs := [9]) (by kernel_rfl) (by simp) ?_
          refine (AllReadyH.cons rfl (fun K hK => ?_) AllReadyH.nil)
          have c0 : v9.cell? ⟨p7, 0, none⟩ = some (.int .i64 0) := HF9.out.at0.cell 0
          have c1 : v9.cell? ⟨p7, 1, none⟩ = some (.int .i64 0) := HF9.out.at0.cell 1
          have f0 := HF9.out.at0.free 0
          have f1 := HF9.out.at0.free 1
          have HE : Hid (Rws w ((v9.setCell ⟨p7, 0, none⟩ (.int .i64 x)).setCell ⟨p7, 1, none⟩ (.int .i64 0)) ((p7, 24, #[.int .i64 x, .int .i64 0]) :: L0)) := Lib.hid (HF9.out.set2 HLp7.out.1 HLp7.out.2 _ _)
          have HN : Hid (Rws w ((v9.setCell ⟨p7, 0, none⟩ (.int .i64 x)).setCell ⟨p7, 1, none⟩ (.int .i64 0)) L0) := Lib.hid HE.out.tail
          go_simp
          refine hK.out _ _ HN (fun hH2 => ?_)
          clear hK K hHeld
          have hHeld := hH2
          clear hH2
          (try simp only [Act.put, List.getElem_toArray, List.getElem_cons_zero, List.getElem_cons_succ, List.setIfInBounds_toArray, List.set_cons_zero, List.set_cons_succ])
          refine wpAnyH_take (i := 10) (v := ?_) rfl (by kernel_rfl) (by kernel_rfl) (by kernel_rfl) (fun _ _ _ h => nomatch h.1) (Or.inl ⟨by rfl, ?_⟩) (by assumption) ?_
          rotate_left
          · (intro wx hSw; go_simp; (try with_reducible rfl))
          (try simp only [Act.put, List.getElem_toArray, List.getElem_cons_zero, List.getElem_cons_succ, List.setIfInBounds_toArray, List.set_cons_zero, List.set_cons_succ])
          refine wpAnyH_done (by kernel_rfl) ?_ _
          exact ⟨rfl, p7, by (simp only [puts, Act.put, List.setIfInBounds_toArray, List.set_cons_zero, List.set_cons_succ]), HE.out⟩
      · go_simp
        obtain ⟨p10, hp⟩ : ∃ p10, p10 = Wd.heap.size := ⟨_, rfl⟩
        (try rw [← hp])
        have HLp10 : Hid ((∀ r ∈ L0, r.1 < p10) ∧ w.heap.size ≤ p10) := Lib.hid ⟨by rw [hp]; exact HFd.out.lt, by rw [hp]; exact HFd.out.2.size⟩
        have HF10 : Hid (Rws w (Wd.alloc (.cells #[.int .i64 0, .int .i64 0] 24)) ((p10, 24, #[.int .i64 0, .int .i64 0]) :: L0)) := Lib.hid (HFd.out.alloc p10 hp _ _)
        clear HFd hp
        refine kHeld hK.out (W := Wd.alloc (.cells #[.int .i64 0, .int .i64 0] 24)) (Lib.hid HF10.out.tail) (fun hH2 => ?_)
        clear hK K hHeld
        have hHeld := hH2
        clear hH2
        generalize Wd.alloc (.cells #[.int .i64 0, .int .i64 0] 24) = a10 at hHeld HF10 ⊢
        (try simp only [Act.put, List.getElem_toArray, List.getElem_cons_zero, List.getElem_cons_succ, List.setIfInBounds_toArray, List.set_cons_zero, List.set_cons_succ])
        refine wpAnyH_ready (rs := [1]) (by kernel_rfl) (by simp) ?_
        refine (AllReadyH.cons rfl (fun K hK => ?_) AllReadyH.nil)
        go_simp
        go_at_call 18
        refine (fieldsOf_A s hok.out A hA dl _).mono ?_
        rintro e v11 ⟨rfl, hb⟩
        have HF11 : Hid (Rws w v11 ((p10, 24, #[.int .i64 0, .int .i64 0]) :: L0)) := Lib.hid (HF10.out.below hb)
        clear hb HF10
        have HN : Hid (Rws w v11 L0) := Lib.hid HF11.out.tail
        refine hK.out _ _ HN (fun hH2 => ?_)
        clear hK K hHeld
        have hHeld := hH2
        clear hH2
        (try simp only [Act.put, List.getElem_toArray, List.getElem_cons_zero, List.getElem_cons_succ, List.setIfInBounds_toArray, List.set_cons_zero, List.set_cons_succ])
        refine wpAnyH_ready (rs := [3]) (by kernel_rfl) (by simp) ?_
        refine (AllReadyH.cons rfl (fun K hK => ?_) AllReadyH.nil)
        go_simp
        go_at_call 19
        refine (cronUTC_any _).mono ?_
        rintro e v12 ⟨rfl, hb⟩
        have HF12 : Hid (Rws w v12 ((p10, 24, #[.int .i64 0, .int .i64 0]) :: L0)) := Lib.hid (HF11.out.below hb)
        clear hb HF11
        have HN : Hid (Rws w v12 L0) := Lib.hid HF12.out.tail
        refine hK.out _ _ HN (fun hH2 => ?_)
        clear hK K hHeld
        have hHeld := hH2
        clear hH2
        (try simp only [Act.put, List.getElem_toArray, List.getElem_cons_zero, List.getElem_cons_succ, List.setIfInBounds_toArray, List.set_cons_zero, List.set_cons_succ])
        refine wpAnyH_ready (rs := [4]) (by kernel_rfl) (by simp) ?_
        refine (AllReadyH.cons rfl (fun K hK => ?_) AllReadyH.nil)
        go_simp
        go_at_call 17
        refine (specNext_fix s sec ns h0 h1 first Y0 Hf HY0 yb0 r x b hr hx A hA _).mono ?_
        rintro e v13 ⟨rfl, hb⟩
        have HF13 : Hid (Rws w v13 ((p10, 24, #[.int .i64 0, .int .i64 0]) :: L0)) := Lib.hid (HF12.out.below hb)
        clear hb HF12
        have HN : Hid (Rws w v13 L0) := Lib.hid HF13.out.tail
        refine hK.out _ _ HN (fun hH2 => ?_)
        clear hK K hHeld
        have hHeld := hH2
        clear hH2
        (try simp only [Act.put, List.getElem_toArray, List.getElem_cons_zero, List.getElem_cons_succ, List.setIfInBounds_toArray, List.set_cons_zero, List.set_cons_succ])
        refine wpAnyH_take (i := 5) (v := ?_) rfl (by kernel_rfl) (by kernel_rfl) (by kernel_rfl) (fun _ _ _ h => nomatch h.1) (Or.inl ⟨by rfl, ?_⟩) (by assumption) ?_
        rotate_left
        · (intro wx hSw; go_simp; (try with_reducible rfl))
        (try simp only [Act.put, List.getElem_toArray, List.getElem_cons_zero, List.getElem_cons_succ, List.setIfInBounds_toArray, List.set_cons_zero, List.set_cons_succ])
        refine wpAnyH_take (i := 6) (v := ?_) rfl (by kernel_rfl) (by kernel_rfl) (by kernel_rfl) (fun _ _ _ h => nomatch h.1) (Or.inl ⟨by rfl, ?_⟩) (by assumption) ?_
        rotate_left
        · (intro wx hSw; go_simp; (try with_reducible rfl))
        (try simp only [Act.put, List.getElem_toArray, List.getElem_cons_zero, List.getElem_cons_succ, List.setIfInBounds_toArray, List.set_cons_zero, List.set_cons_succ])
        refine wpAnyH_take (i := 7) (v := ?_) rfl (by kernel_rfl) (by kernel_rfl) (by kernel_rfl) (fun _ _ _ h => nomatch h.1) (Or.inl ⟨by rfl, ?_⟩) (by assumption) ?_
        rotate_left
        · (intro wx hSw; go_simp; (try with_reducible rfl))
        (try simp only [Act.put, List.getElem_toArray, List.getElem_cons_zero, List.getElem_cons_succ, List.setIfInBounds_toArray, List.set_cons_zero, List.set_cons_succ])
        refine wpAnyH_ready (rs := [9]) (by kernel_rfl) (by simp) ?_
        refine (AllReadyH.cons rfl (fun K hK => ?_) AllReadyH.nil)
        have c0 : v13.cell? ⟨p10, 0, none⟩ = some (.int .i64 0) := HF13.out.at0.cell 0
        have c1 : v13.cell? ⟨p10, 1, none⟩ = some (.int .i64 0) := HF13.out.at0.cell 1
        have f0 := HF13.out.at0.free 0
        have f1 := HF13.out.at0.free 1
        have HE : Hid (Rws w ((v13.setCell ⟨p10, 0, none⟩ (.int .i64 x)).setCell ⟨p10, 1, none⟩ (.int .i64 0)) ((p10, 24, #[.int .i64 x, .int .i64 0]) :: L0)) := Lib.hid (HF13.out.set2 HLp10.out.1 HLp10.out.2 _ _)
        have HN : Hid (Rws w ((v13.setCell ⟨p10, 0, none⟩ (.int .i64 x)).setCell ⟨p10, 1, none⟩ (.int .i64 0)) L0) := Lib.hid HE.out.tail
        go_simp
        refine hK.out _ _ HN (fun hH2 => ?_)
        clear hK K hHeld
        have hHeld := hH2
        clear hH2
        (try simp only [Act.put, List.getElem_toArray, List.getElem_cons_zero, List.getElem_cons_succ, List.setIfInBounds_toArray, List.set_cons_zero, List.set_cons_succ])
        refine wpAnyH_take (i := 10) (v := ?_) rfl (by kernel_rfl) (by kernel_rfl) (by kernel_rfl) (fun _ _ _ h => nomatch h.1) (Or.inl ⟨by rfl, ?_⟩) (by assumption) ?_
        rotate_left
        · (intro wx hSw; go_simp; (try with_reducible rfl))
        (try simp only [Act.put, List.getElem_toArray, List.getElem_cons_zero, List.getElem_cons_succ, List.setIfInBounds_toArray, List.set_cons_zero, List.set_cons_succ])
        refine wpAnyH_done (by kernel_rfl) ?_ _
        exact ⟨rfl, p10, by (simp only [puts, Act.put, List.setIfInBounds_toArray, List.set_cons_zero, List.set_cons_succ]), HE.out⟩
    case hq =>
      rintro p1 W1 hF
      rw [HL0.out] at hF
      (simp only [puts, Act.put, List.setIfInBounds_toArray, List.set_cons_zero, List.set_cons_succ])
      have HR1 := Lib.hid hF
      clear hF HL0 L0 HR0
      go_wp2_with fail
      obtain ⟨L0, HL0⟩ : ∃ L0 : List (Nat × TypeId × Array Value), Hid (L0 = [(p1, 24, #[.int .i64 x, .int .i64 0]), (w.heap.size + 1, 24, #[.int .i64 sec, .int .i64 ns]), (w.heap.size, 38, #[.bool false, .int .i64 dl, .int .u64 s.se, .int .u64 s.mi, .int .u64 s.ho, .int .u64 s.dom, .int .u64 s.mo, .int .u64 s.dow])]) := ⟨_, rfl⟩
      rw [← HL0.out] at HR1
      refine reg_framex (fun p => [(22, .agg #[.bool false, .int .i64 dl, .int .u64 s.se, .int .u64 s.mi, .int .u64 s.ho, .int .u64 s.dom, .int .u64 s.mo, .int .u64 s.dow]), (23, .agg #[.int .i64 sec, .int .i64 ns]), (24, .agg #[.slice none 0 0, .slice none 0 0, .slice none 0 0, .slice none 0 0]), (25, .tuple #[.agg #[.int .i64 x, .int .i64 0], .bool b]), (21, .tuple #[.agg #[.int .i64 x, .int .i64 0], .bool b]), (26, .agg #[.int .i64 x, .int .i64 0]), (27, .bool b), (7, .pointer (some ⟨p, 0, none⟩)), (8, .bool b)]) (fun p w' => Rws w w' ((p, 24, #[.int .i64 x, .int .i64 0]) :: L0)) ?reg ?hq
      case reg =>
        have HFd : Hid (Rws w W1.drew L0) := Lib.hid HR1.out.drew
        refine wp_region_held_drew (S := fun w' => Hid (Rws w w' L0)) (by kernel_rfl) HFd (fun hHeld => ?_)
        generalize W1.drew = Wd at HFd hHeld ⊢
        (try simp only [Act.put, List.getElem_toArray, List.getElem_cons_zero, List.getElem_cons_succ, List.setIfInBounds_toArray, List.set_cons_zero, List.set_cons_succ])
        refine wpAnyH_take (i := 0) (v := ?_) rfl (by kernel_rfl) (by kernel_rfl) (by kernel_rfl) (fun _ _ _ h => nomatch h.1) (Or.inl ⟨by rfl, ?_⟩) (by assumption) ?_
        rotate_left
        · (intro wx hSw; have hSx := hSw.out; rw [HL0.out] at hSx; have k0 : wx.cell? ⟨w.heap.size, 0, none⟩ = some (.bool false) := hSx.at2.cell 0; have k1 : wx.cell? ⟨w.heap.size, 1, none⟩ = some (.int .i64 dl) := hSx.at2.cell 1; have k2 : wx.cell? ⟨w.heap.size, 2, none⟩ = some (.int .u64 s.se) := hSx.at2.cell 2; have k3 : wx.cell? ⟨w.heap.size, 3, none⟩ = some (.int .u64 s.mi) := hSx.at2.cell 3; have k4 : wx.cell? ⟨w.heap.size, 4, none⟩ = some (.int .u64 s.ho) := hSx.at2.cell 4; have k5 : wx.cell? ⟨w.heap.size, 5, none⟩ = some (.int .u64 s.dom) := hSx.at2.cell 5; have k6 : wx.cell? ⟨w.heap.size, 6, none⟩ = some (.int .u64 s.mo) := hSx.at2.cell 6; have k7 : wx.cell? ⟨w.heap.size, 7, none⟩ = some (.int .u64 s.dow) := hSx.at2.cell 7; go_simp; (try with_reducible rfl))
        (try simp only [Act.put, List.getElem_toArray, List.getElem_cons_zero, List.getElem_cons_succ, List.setIfInBounds_toArray, List.set_cons_zero, List.set_cons_succ])
        refine wpAnyH_take (i := 1) (v := ?_) rfl (by kernel_rfl) (by kernel_rfl) (by kernel_rfl) (fun _ _ _ h => nomatch h.1) (Or.inl ⟨by rfl, ?_⟩) (by assumption) ?_
        rotate_left
        · (intro wx hSw; have hSx := hSw.out; rw [HL0.out] at hSx; have k0 : wx.cell? ⟨w.heap.size + 1, 0, none⟩ = some (.int .i64 sec) := hSx.at1.cell 0; have k1 : wx.cell? ⟨w.heap.size + 1, 1, none⟩ = some (.int .i64 ns) := hSx.at1.cell 1; go_simp; (try with_reducible rfl))
        (try simp only [Act.put, List.getElem_toArray, List.getElem_cons_zero, List.getElem_cons_succ, List.setIfInBounds_toArray, List.set_cons_zero, List.set_cons_succ])
        refine wpAnyH_ready (rs := [2, 7]) (by kernel_rfl) (by simp) ?_
        refine (AllReadyH.cons rfl (fun K hK => ?_) (AllReadyH.cons rfl (fun K hK => ?_) AllReadyH.nil))
        · go_simp
          go_at_call 19
          refine (cronUTC_any _).mono ?_
          rintro e v1 ⟨rfl, hb⟩
          have HF1 : Hid (Rws w v1 L0) := Lib.hid (HFd.out.below hb)
          clear hb HFd
          have HN : Hid (Rws w v1 L0) := Lib.hid HF1.out
          refine hK.out _ _ HN (fun hH2 => ?_)
          clear hK K hHeld
          have hHeld := hH2
          clear hH2
          (try simp only [Act.put, List.getElem_toArray, List.getElem_cons_zero, List.getElem_cons_succ, List.setIfInBounds_toArray, List.set_cons_zero, List.set_cons_succ])
          refine wpAnyH_ready (rs := [3, 7]) (by kernel_rfl) (by simp) ?_
          refine (AllReadyH.cons rfl (fun K hK => ?_) (AllReadyH.cons rfl (fun K hK => ?_) AllReadyH.nil))
          · go_simp
            go_at_call 20
            refine (implNext_fix s sec ns h0 h1 first Y0 Hf HY0 yb0 r x b hr hx hok dl hn _).mono ?_
            rintro e v2 ⟨rfl, hb⟩
            have HF2 : Hid (Rws w v2 L0) := Lib.hid (HF1.out.below hb)
            clear hb HF1
            have HN : Hid (Rws w v2 L0) := Lib.hid HF2.out
            refine hK.out _ _ HN (fun hH2 => ?_)
            clear hK K hHeld
            have hHeld := hH2
            clear hH2
            (try simp only [Act.put, List.getElem_toArray, List.getElem_cons_zero, List.getElem_cons_succ, List.setIfInBounds_toArray, List.set_cons_zero, List.set_cons_succ])
            refine wpAnyH_take (i := 4) (v := ?_) rfl (by kernel_rfl) (by kernel_rfl) (by kernel_rfl) (fun _ _ _ h => nomatch h.1) (Or.inl ⟨by rfl, ?_⟩) (by assumption) ?_
            rotate_left
            · (intro wx hSw; go_simp; (try with_reducible rfl))
            (try simp only [Act.put, List.getElem_toArray, List.getElem_cons_zero, List.getElem_cons_succ, List.setIfInBounds_toArray, List.set_cons_zero, List.set_cons_succ])
            refine wpAnyH_take (i := 5) (v := ?_) rfl (by kernel_rfl) (by kernel_rfl) (by kernel_rfl) (fun _ _ _ h => nomatch h.1) (Or.inl ⟨by rfl, ?_⟩) (by assumption) ?_
            rotate_left
            · (intro wx hSw; go_simp; (try with_reducible rfl))
            (try simp only [Act.put, List.getElem_toArray, List.getElem_cons_zero, List.getElem_cons_succ, List.setIfInBounds_toArray, List.set_cons_zero, List.set_cons_succ])
            refine wpAnyH_take (i := 6) (v := ?_) rfl (by kernel_rfl) (by kernel_rfl) (by kernel_rfl) (fun _ _ _ h => nomatch h.1) (Or.inl ⟨by rfl, ?_⟩) (by assumption) ?_
            rotate_left
            · (intro wx hSw; go_simp; (try with_reducible rfl))
            (try simp only [Act.put, List.getElem_toArray, List.getElem_cons_zero, List.getElem_cons_succ, List.setIfInBounds_toArray, List.set_cons_zero, List.set_cons_succ])
            refine wpAnyH_ready (rs := [7]) (by kernel_rfl) (by simp) ?_
            refine (AllReadyH.cons rfl (fun K hK => ?_) AllReadyH.nil)
            go_simp
            obtain ⟨p3, hp⟩ : ∃ p3, p3 = v2.heap.size := ⟨_, rfl⟩
            (try rw [← hp])
            have HLp3 : Hid ((∀ r ∈ L0, r.1 < p3) ∧ w.heap.size ≤ p3) := Lib.hid ⟨by rw [hp]; exact HF2.out.lt, by rw [hp]; exact HF2.out.2.size⟩
            have HF3 : Hid (Rws w (v2.alloc (.cells #[.int .i64 0, .int .i64 0] 24)) ((p3, 24, #[.int .i64 0, .int .i64 0]) :: L0)) := Lib.hid (HF2.out.alloc p3 hp _ _)
            clear HF2 hp
            refine kHeld hK.out (W := v2.alloc (.cells #[.int .i64 0, .int .i64 0] 24)) (Lib.hid HF3.out.tail) (fun hH2 => ?_)
            clear hK K hHeld
            have hHeld := hH2
            clear hH2
            generalize v2.alloc (.cells #[.int .i64 0, .int .i64 0] 24) = a3 at hHeld HF3 ⊢
            (try simp only [Act.put, List.getElem_toArray, List.getElem_cons_zero, List.getElem_cons_succ, List.setIfInBounds_toArray, List.set_cons_zero, List.set_cons_succ])
            refine wpAnyH_ready (rs := [8]) (by kernel_rfl) (by simp) ?_
            refine (AllReadyH.cons rfl (fun K hK => ?_) AllReadyH.nil)
            have c0 : a3.cell? ⟨p3, 0, none⟩ = some (.int .i64 0) := HF3.out.at0.cell 0
            have c1 : a3.cell? ⟨p3, 1, none⟩ = some (.int .i64 0) := HF3.out.at0.cell 1
            have f0 := HF3.out.at0.free 0
            have f1 := HF3.out.at0.free 1
            have HE : Hid (Rws w ((a3.setCell ⟨p3, 0, none⟩ (.int .i64 x)).setCell ⟨p3, 1, none⟩ (.int .i64 0)) ((p3, 24, #[.int .i64 x, .int .i64 0]) :: L0)) := Lib.hid (HF3.out.set2 HLp3.out.1 HLp3.out.2 _ _)
            have HN : Hid (Rws w ((a3.setCell ⟨p3, 0, none⟩ (.int .i64 x)).setCell ⟨p3, 1, none⟩ (.int .i64 0)) L0) := Lib.hid HE.out.tail
            go_simp
            refine hK.out _ _ HN (fun hH2 => ?_)
            clear hK K hHeld
            have hHeld := hH2
            clear hH2
            (try simp only [Act.put, List.getElem_toArray, List.getElem_cons_zero, List.getElem_cons_succ, List.setIfInBounds_toArray, List.set_cons_zero, List.set_cons_succ])
            refine wpAnyH_take (i := 9) (v := ?_) rfl (by kernel_rfl) (by kernel_rfl) (by kernel_rfl) (fun _ _ _ h => nomatch h.1) (Or.inl ⟨by rfl, ?_⟩) (by assumption) ?_
            rotate_left
            · (intro wx hSw; go_simp; (try with_reducible rfl))
            (try simp only [Act.put, List.getElem_toArray, List.getElem_cons_zero, List.getElem_cons_succ, List.setIfInBounds_toArray, List.set_cons_zero, List.set_cons_succ])
            refine wpAnyH_done (by kernel_rfl) ?_ _
            exact ⟨rfl, p3, by (simp only [puts, Act.put, List.setIfInBounds_toArray, List.set_cons_zero, List.set_cons_succ]), HE.out⟩
          · go_simp
            obtain ⟨p4, hp⟩ : ∃ p4, p4 = v1.heap.size := ⟨_, rfl⟩
            (try rw [← hp])
            have HLp4 : Hid ((∀ r ∈ L0, r.1 < p4) ∧ w.heap.size ≤ p4) := Lib.hid ⟨by rw [hp]; exact HF1.out.lt, by rw [hp]; exact HF1.out.2.size⟩
            have HF4 : Hid (Rws w (v1.alloc (.cells #[.int .i64 0, .int .i64 0] 24)) ((p4, 24, #[.int .i64 0, .int .i64 0]) :: L0)) := Lib.hid (HF1.out.alloc p4 hp _ _)
            clear HF1 hp
            refine kHeld hK.out (W := v1.alloc (.cells #[.int .i64 0, .int .i64 0] 24)) (Lib.hid HF4.out.tail) (fun hH2 => ?_)
            clear hK K hHeld
            have hHeld := hH2
            clear hH2
            generalize v1.alloc (.cells #[.int .i64 0, .int .i64 0] 24) = a4 at hHeld HF4 ⊢
            (try simp only [Act.put, List.getElem_toArray, List.getElem_cons_zero, List.getElem_cons_succ, List.setIfInBounds_toArray, List.set_cons_zero, List.set_cons_succ])
            refine wpAnyH_ready (rs := [3]) (by kernel_rfl) (by simp) ?_
            refine (AllReadyH.cons rfl (fun K hK => ?_) AllReadyH.nil)
            go_simp
            go_at_call 20
            refine (implNext_fix s sec ns h0 h1 first Y0 Hf HY0 yb0 r x b hr hx hok dl hn _).mono ?_
            rintro e v5 ⟨rfl, hb⟩
            have HF5 : Hid (Rws w v5 ((p4, 24, #[.int .i64 0, .int .i64 0]) :: L0)) := Lib.hid (HF4.out.below hb)
            clear hb HF4
            have HN : Hid (Rws w v5 L0) := Lib.hid HF5.out.tail
            refine hK.out _ _ HN (fun hH2 => ?_)
            clear hK K hHeld
            have hHeld := hH2
            clear hH2
            (try simp only [Act.put, List.getElem_toArray, List.getElem_cons_zero, List.getElem_cons_succ, List.setIfInBounds_toArray, List.set_cons_zero, List.set_cons_succ])
            refine wpAnyH_take (i := 4) (v := ?_) rfl (by kernel_rfl) (by kernel_rfl) (by kernel_rfl) (fun _ _ _ h => nomatch h.1) (Or.inl ⟨by rfl, ?_⟩) (by assumption) ?_
            rotate_left
            · (intro wx hSw; go_simp; (try with_reducible rfl))
            (try simp only [Act.put, List.getElem_toArray, List.getElem_cons_zero, List.getElem_cons_succ, List.setIfInBounds_toArray, List.set_cons_zero, List.set_cons_succ])
            refine wpAnyH_take (i := 5) (v := ?_) rfl (by kernel_rfl) (by kernel_rfl) (by kernel_rfl) (fun _ _ _ h => nomatch h.1) (Or.inl ⟨by rfl, ?_⟩) (by assumption) ?_
            rotate_left
            · (intro wx hSw; go_simp; (try with_reducible rfl))
            (try simp only [Act.put, List.getElem_toArray, List.getElem_cons_zero, List.getElem_cons_succ, List.setIfInBounds_toArray, List.set_cons_zero, List.set_cons_succ])
            refine wpAnyH_take (i := 6) (v := ?_) rfl (by kernel_rfl) (by kernel_rfl) (by kernel_rfl) (fun _ _ _ h => nomatch h.1) (Or.inl ⟨by rfl, ?_⟩) (by assumption) ?_
            rotate_left
            · (intro wx hSw; go_simp; (try with_reducible rfl))
            (try simp only [Act.put, List.getElem_toArray, List.getElem_cons_zero, List.getElem_cons_succ, List.setIfInBounds_toArray, List.set_cons_zero, List.set_cons_succ])
            refine wpAnyH_ready (rs := [8]) (by kernel_rfl) (by simp) ?_
            refine (AllReadyH.cons rfl (fun K hK => ?_) AllReadyH.nil)
            have c0 : v5.cell? ⟨p4, 0, none⟩ = some (.int .i64 0) := HF5.out.at0.cell 0
            have c1 : v5.cell? ⟨p4, 1, none⟩ = some (.int .i64 0) := HF5.out.at0.cell 1
            have f0 := HF5.out.at0.free 0
            have f1 := HF5.out.at0.free 1
            have HE : Hid (Rws w ((v5.setCell ⟨p4, 0, none⟩ (.int .i64 x)).setCell ⟨p4, 1, none⟩ (.int .i64 0)) ((p4, 24, #[.int .i64 x, .int .i64 0]) :: L0)) := Lib.hid (HF5.out.set2 HLp4.out.1 HLp4.out.2 _ _)
            have HN : Hid (Rws w ((v5.setCell ⟨p4, 0, none⟩ (.int .i64 x)).setCell ⟨p4, 1, none⟩ (.int .i64 0)) L0) := Lib.hid HE.out.tail
            go_simp
            refine hK.out _ _ HN (fun hH2 => ?_)
            clear hK K hHeld
            have hHeld := hH2
            clear hH2
            (try simp only [Act.put, List.getElem_toArray, List.getElem_cons_zero, List.getElem_cons_succ, List.setIfInBounds_toArray, List.set_cons_zero, List.set_cons_succ])
            refine wpAnyH_take (i := 9) (v := ?_) rfl (by kernel_rfl) (by kernel_rfl) (by kernel_rfl) (fun _ _ _ h => nomatch h.1) (Or.inl ⟨by rfl, ?_⟩) (by assumption) ?_
            rotate_left
            · (intro wx hSw; go_simp; (try with_reducible rfl))
            (try simp only [Act.put, List.getElem_toArray, List.getElem_cons_zero, List.getElem_cons_succ, List.setIfInBounds_toArray, List.set_cons_zero, List.set_cons_succ])
            refine wpAnyH_done (by kernel_rfl) ?_ _
            exact ⟨rfl, p4, by (simp only [puts, Act.put, List.setIfInBounds_toArray, List.set_cons_zero, List.set_cons_succ]), HE.out⟩
        · go_simp
          obtain ⟨p6, hp⟩ : ∃ p6, p6 = Wd.heap.size := ⟨_, rfl⟩
          (try rw [← hp])
          have HLp6 : Hid ((∀ r ∈ L0, r.1 < p6) ∧ w.heap.size ≤ p6) := Lib.hid ⟨by rw [hp]; exact HFd.out.lt, by rw [hp]; exact HFd.out.2.size⟩
          have HF6 : Hid (Rws w (Wd.alloc (.cells #[.int .i64 0, .int .i64 0] 24)) ((p6, 24, #[.int .i64 0, .int .i64 0]) :: L0)) := Lib.hid (HFd.out.alloc p6 hp _ _)
          clear HFd hp
          refine kHeld hK.out (W := Wd.alloc (.cells #[.int .i64 0, .int .i64 0] 24)) (Lib.hid HF6.out.tail) (fun hH2 => ?_)
          clear hK K hHeld
          have hHeld := hH2
          clear hH2
          generalize Wd.alloc (.cells #[.int .i64 0, .int .i64 0] 24) = a6 at hHeld HF6 ⊢
          (try simp only [Act.put, List.getElem_toArray, List.getElem_cons_zero, List.getElem_cons_succ, List.setIfInBounds_toArray, List.set_cons_zero, List.set_cons_succ])
          refine wpAnyH_ready (rs := [2]) (by kernel_rfl) (by simp) ?_
          refine (AllReadyH.cons rfl (fun K hK => ?_) AllReadyH.nil)
          go_simp
          go_at_call 19
          refine (cronUTC_any _).mono ?_
          rintro e v7 ⟨rfl, hb⟩
          have HF7 : Hid (Rws w v7 ((p6, 24, #[.int .i64 0, .int .i64 0]) :: L0)) := Lib.hid (HF6.out.below hb)
          clear hb HF6
          have HN : Hid (Rws w v7 L0) := Lib.hid HF7.out.tail
          refine hK.out _ _ HN (fun hH2 => ?_)
          clear hK K hHeld
          have hHeld := hH2
          clear hH2
          (try simp only [Act.put, List.getElem_toArray, List.getElem_cons_zero, List.getElem_cons_succ, List.setIfInBounds_toArray, List.set_cons_zero, List.set_cons_succ])
          refine wpAnyH_ready (rs := [3]) (by kernel_rfl) (by simp) ?_
          refine (AllReadyH.cons rfl (fun K hK => ?_) AllReadyH.nil)
          go_simp
          go_at_call 20
          refine (implNext_fix s sec ns h0 h1 first Y0 Hf HY0 yb0 r x b hr hx hok dl hn _).mono ?_
          rintro e v8 ⟨rfl, hb⟩
          have HF8 : Hid (Rws w v8 ((p6, 24, #[.int .i64 0, .int .i64 0]) :: L0)) := Lib.hid (HF7.out.below hb)
          clear hb HF7
          have HN : Hid (Rws w v8 L0) := Lib.hid HF8.out.tail
          refine hK.out _ _ HN (fun hH2 => ?_)
          clear hK K hHeld
          have hHeld := hH2
          clear hH2
          (try simp only [Act.put, List.getElem_toArray, List.getElem_cons_zero, List.getElem_cons_succ, List.setIfInBounds_toArray, List.set_cons_zero, List.set_cons_succ])
          refine wpAnyH_take (i := 4) (v := ?_) rfl (by kernel_rfl) (by kernel_rfl) (by kernel_rfl) (fun _ _ _ h => nomatch h.1) (Or.inl ⟨by rfl, ?_⟩) (by assumption) ?_
          rotate_left
          · (intro wx hSw; go_simp; (try with_reducible rfl))
          (try simp only [Act.put, List.getElem_toArray, List.getElem_cons_zero, List.getElem_cons_succ, List.setIfInBounds_toArray, List.set_cons_zero, List.set_cons_succ])
          refine wpAnyH_take (i := 5) (v := ?_) rfl (by kernel_rfl) (by kernel_rfl) (by kernel_rfl) (fun _ _ _ h => nomatch h.1) (Or.inl ⟨by rfl, ?_⟩) (by assumption) ?_
          rotate_left
          · (intro wx hSw; go_simp; (try with_reducible rfl))
          (try simp only [Act.put, List.getElem_toArray, List.getElem_cons_zero, List.getElem_cons_succ, List.setIfInBounds_toArray, List.set_cons_zero, List.set_cons_succ])
          refine wpAnyH_take (i := 6) (v := ?_) rfl (by kernel_rfl) (by kernel_rfl) (by kernel_rfl) (fun _ _ _ h => nomatch h.1) (Or.inl ⟨by rfl, ?_⟩) (by assumption) ?_
          rotate_left
          · (intro wx hSw; go_simp; (try with_reducible rfl))
          (try simp only [Act.put, List.getElem_toArray, List.getElem_cons_zero, List.getElem_cons_succ, List.setIfInBounds_toArray, List.set_cons_zero, List.set_cons_succ])
          refine wpAnyH_ready (rs := [8]) (by kernel_rfl) (by simp) ?_
          refine (AllReadyH.cons rfl (fun K hK => ?_) AllReadyH.nil)
          have c0 : v8.cell? ⟨p6, 0, none⟩ = some (.int .i64 0) := HF8.out.at0.cell 0
          have c1 : v8.cell? ⟨p6, 1, none⟩ = some (.int .i64 0) := HF8.out.at0.cell 1
          have f0 := HF8.out.at0.free 0
          have f1 := HF8.out.at0.free 1
          have HE : Hid (Rws w ((v8.setCell ⟨p6, 0, none⟩ (.int .i64 x)).setCell ⟨p6, 1, none⟩ (.int .i64 0)) ((p6, 24, #[.int .i64 x, .int .i64 0]) :: L0)) := Lib.hid (HF8.out.set2 HLp6.out.1 HLp6.out.2 _ _)
          have HN : Hid (Rws w ((v8.setCell ⟨p6, 0, none⟩ (.int .i64 x)).setCell ⟨p6, 1, none⟩ (.int .i64 0)) L0) := Lib.hid HE.out.tail
          go_simp
          refine hK.out _ _ HN (fun hH2 => ?_)
          clear hK K hHeld
          have hHeld := hH2
          clear hH2
          (try simp only [Act.put, List.getElem_toArray, List.getElem_cons_zero, List.getElem_cons_succ, List.setIfInBounds_toArray, List.set_cons_zero, List.set_cons_succ])
          refine wpAnyH_take (i := 9) (v := ?_) rfl (by kernel_rfl) (by kernel_rfl) (by kernel_rfl) (fun _ _ _ h => nomatch h.1) (Or.inl ⟨by rfl, ?_⟩) (by assumption) ?_
          rotate_left
          · (intro wx hSw; go_simp; (try with_reducible rfl))
          (try simp only [Act.put, List.getElem_toArray, List.getElem_cons_zero, List.getElem_cons_succ, List.setIfInBounds_toArray, List.set_cons_zero, List.set_cons_succ])
          refine wpAnyH_done (by kernel_rfl) ?_ _
          exact ⟨rfl, p6, by (simp only [puts, Act.put, List.setIfInBounds_toArray, List.set_cons_zero, List.set_cons_succ]), HE.out⟩
      case hq =>
        rintro p2 W2 hF
        rw [HL0.out] at hF
        (simp only [puts, Act.put, List.setIfInBounds_toArray, List.set_cons_zero, List.set_cons_succ])
        have k0 : W2.cell? ⟨p2, 0, none⟩ = some (.int .i64 x) := hF.at0.cell 0
        have k1 : W2.cell? ⟨p2, 1, none⟩ = some (.int .i64 0) := hF.at0.cell 1
        have k2 : W2.cell? ⟨p1, 0, none⟩ = some (.int .i64 x) := hF.at1.cell 0
        have k3 : W2.cell? ⟨p1, 1, none⟩ = some (.int .i64 0) := hF.at1.cell 1
        have hB := hF.2
        clear hF HL0 HR1 L0
        cases b
        all_goals
          go_wp2_with fail
          go_ret
          exact ⟨ret_bool (by simp), hB⟩
  · -- none: true at once
    have hg' : (!ev && goodB sec ns) = false := by simpa using hg
    have Hg := Lib.hid hg'
    clear hg hg'
    go_enter Try.func4, Try.ntmps4
    go_wp2_with fail
    refine (case_any s ev dl sec ns _).mono ?_
    rintro e w1 ⟨rfl, hb⟩
    rw [Hg.out]
    have b1 : Below w.heap.size w w1 := Below.trans (by repeat (first | (with_reducible assumption) | (with_reducible exact Below.refl _ _) | (with_reducible refine Below.setCell ?_ (by first | omega | (simp <;> omega)) _) | refine below_drewN ?_ _ | refine Below.drew ?_ | refine Below.alloc ?_ (by first | omega | (simp <;> omega)) _)) (hb.mono (by simp; omega))
    go_wp2_with fail
    go_ret
    exact ⟨rfl, b1⟩

end Go.Proofs.Ytpgclepiagfgfaa
