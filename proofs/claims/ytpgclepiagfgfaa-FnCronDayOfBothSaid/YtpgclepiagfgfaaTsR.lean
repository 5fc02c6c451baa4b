/- laws.FnCronNextStays. -/
import Derived.Test.YtpgclepiagfgfaaTsP
namespace Go.Proofs.Ytpgclepiagfgfaa
open Go.RowKit
set_option linter.unusedVariables false
set_option linter.unusedSimpArgs false

theorem ans_true {r x : Int} {b : Bool} (h : ansX r = x ∧ ansB r = b) (hb : b = true) : 0 < r ∧ x = r - 62135596800 := by
  obtain ⟨h1, h2⟩ := h
  rw [hb] at h2
  have : 0 < r := of_decide_eq_true h2
  refine ⟨this, ?_⟩
  rw [← h1]; unfold ansX; rw [if_neg (by omega)]
theorem NextIs.from {s : Sched} {first lim r : Int} (h : NextIs s first lim r) (hr : 0 < r) : first ≤ r ∧ fits s r = true ∧ yr r ≤ lim ∧ NoFit s first r := by
  rcases h with h | ⟨rfl, -⟩
  · exact h
  · omega
theorem stays_plain {s : Sched} {f1 l1 r1 f2 l2 r2 : Int} (h1 : NextIs s f1 l1 r1) (h2 : NextIs s f2 l2 r2) (hf : f1 ≤ f2) (hl : l1 ≤ l2) (hr : 0 < r1) : (f2 ≤ r1 → r2 = r1) ∧ (r1 < f2 → 0 < r2 → r1 < r2) := by
  obtain ⟨a1, a2, a3, a4⟩ := h1.from hr
  constructor
  · intro h
    exact h2.unique (.inl ⟨h, a2, by omega, fun v k1 k2 => a4 v (by omega) k2⟩)
  · intro h k
    have := (h2.from k).1; omega
theorem years_le {a b : Int} (h : a ≤ b) {x y : Int} (hx : yearOf (dayN (a + 62135596800 + 1)) = x) (hy : yearOf (dayN (b + 62135596800 + 1)) = y) : x ≤ y := by
  have := yr_mono (show a + 62135596800 + 1 ≤ b + 62135596800 + 1 by omega)
  unfold yr at this; omega
theorem before_not {a b c d : Int} (h : beforeB a b c d = false) : c ≤ a := by
  unfold beforeB at h
  simp at h
  omega

set_option maxRecDepth 100000 in
set_option maxHeartbeats 8000000 in
theorem stays_law (s : Sched) (hok : Hid s.ok) (ev : Bool) (dl sec ns sec2 ns2 : Int) (w : World) :
    Calls Try.prog 6 #[.agg #[.bool ev, .int .i64 dl, .int .u64 s.se, .int .u64 s.mi, .int .u64 s.ho, .int .u64 s.dom, .int .u64 s.mo, .int .u64 s.dow], .agg #[.int .i64 sec, .int .i64 ns], .agg #[.int .i64 sec2, .int .i64 ns2]] w fun e w' => e = .returned (.bool true) ∧ Below w.heap.size w w' := by
  obtain ⟨g1, Hg1⟩ : ∃ g1, Hid ((!ev && goodB sec ns) = g1) := ⟨_, rfl⟩
  obtain ⟨g2, Hg2⟩ : ∃ g2, Hid (goodB sec2 ns2 = g2) := ⟨_, rfl⟩
  obtain ⟨g3, Hg3⟩ : ∃ g3, Hid (beforeB sec2 ns2 sec ns = g3) := ⟨_, rfl⟩
  have HR9 := Lib.hid ((((rws0 w).alloc _ rfl #[.bool ev, .int .i64 dl, .int .u64 s.se, .int .u64 s.mi, .int .u64 s.ho, .int .u64 s.dom, .int .u64 s.mo, .int .u64 s.dow] 38).alloc (w.heap.size + 1) (by simp) #[.int .i64 sec, .int .i64 ns] 24).alloc (w.heap.size + 1 + 1) (by simp) #[.int .i64 sec2, .int .i64 ns2] 24)
  by_cases hall : g1 = true ∧ g2 = true ∧ g3 = false
  · obtain ⟨rfl, rfl, rfl⟩ := hall
    have hle := before_not Hg3.out
    obtain ⟨rfl, h0, h1, hn0, hn1⟩ := good_parts Hg1.out
    obtain ⟨ns, rfl⟩ : ∃ n : Nat, ns = n := ⟨ns.toNat, by omega⟩
    have hn : ns < 1000000000 := by omega
    obtain ⟨first, Hf⟩ : ∃ first, Hid (first = sec + 62135596800 + 1) := ⟨_, rfl⟩
    obtain ⟨Y0, HY0⟩ : ∃ Y0, Hid (yearOf (dayN (sec + 62135596800 + 1)) = Y0) := ⟨_, rfl⟩
    have yb0 : 1 ≤ Y0 ∧ Y0 ≤ 10000 := by have := first_year sec h0 h1; have := HY0.out; omega
    obtain ⟨r, hr0⟩ := nextIs_exists s first (Y0 + 5)
    have hr := Lib.hid hr0
    obtain ⟨x, b, hx⟩ : ∃ x b, Hid (ansX r = x ∧ ansB r = b) := ⟨_, _, Lib.hid ⟨rfl, rfl⟩⟩
    clear hr0 hn0 hn1
    obtain ⟨-, h02, h12, hn02, hn12⟩ := good_parts (ev := false) (sec := sec2) (ns := ns2) (by rw [Hg2.out]; rfl)
    obtain ⟨ns2, rfl⟩ : ∃ n : Nat, ns2 = n := ⟨ns2.toNat, by omega⟩
    have hn2 : ns2 < 1000000000 := by omega
    obtain ⟨first2, Hf2⟩ : ∃ first, Hid (first = sec2 + 62135596800 + 1) := ⟨_, rfl⟩
    obtain ⟨Y02, HY02⟩ : ∃ Y0, Hid (yearOf (dayN (sec2 + 62135596800 + 1)) = Y0) := ⟨_, rfl⟩
    have yb02 : 1 ≤ Y02 ∧ Y02 ≤ 10000 := by have := first_year sec2 h02 h12; have := HY02.out; omega
    obtain ⟨r2, hr02⟩ := nextIs_exists s first2 (Y02 + 5)
    have hr2 := Lib.hid hr02
    obtain ⟨x2, b2, hx2⟩ : ∃ x b, Hid (ansX r2 = x ∧ ansB r2 = b) := ⟨_, _, Lib.hid ⟨rfl, rfl⟩⟩
    clear hr02 hn02 hn12
    have hst := Lib.hid (stays_plain hr.out hr2.out (by have := Hf.out; have := Hf2.out; omega) (by have := years_le hle HY0.out HY02.out; omega))
    obtain ⟨A, hA⟩ : ∃ A, Hid (A = (fieldsL s).toArray) := ⟨_, rfl⟩
    clear hle HR9
    go_enter Try.func6, Try.ntmps6
    go_wp2_with fail
    refine (case_any s false dl sec ns _).mono ?_
    rintro e w1 ⟨rfl, hb⟩
    rw [Hg1.out]
    have HR1 : Hid (Rws w w1 [(w.heap.size + 1 + 1, 24, #[.int .i64 sec2, .int .i64 ns2]), (w.heap.size + 1, 24, #[.int .i64 sec, .int .i64 ns]), (w.heap.size, 38, #[.bool false, .int .i64 dl, .int .u64 s.se, .int .u64 s.mi, .int .u64 s.ho, .int .u64 s.dom, .int .u64 s.mo, .int .u64 s.dow])]) := Lib.hid (((((rws0 w).alloc _ rfl #[.bool false, .int .i64 dl, .int .u64 s.se, .int .u64 s.mi, .int .u64 s.ho, .int .u64 s.dom, .int .u64 s.mo, .int .u64 s.dow] 38).alloc (w.heap.size + 1) (by simp) #[.int .i64 sec, .int .i64 ns] 24).alloc (w.heap.size + 1 + 1) (by simp) #[.int .i64 sec2, .int .i64 ns2] 24).below hb)
    clear hb
    have u0 : w1.cell? ⟨w.heap.size + 1 + 1, 0, none⟩ = some (.int .i64 sec2) := HR1.out.at0.cell 0
    have u1 : w1.cell? ⟨w.heap.size + 1 + 1, 1, none⟩ = some (.int .i64 ns2) := HR1.out.at0.cell 1
    have t0 : w1.cell? ⟨w.heap.size + 1, 0, none⟩ = some (.int .i64 sec) := HR1.out.at1.cell 0
    have t1 : w1.cell? ⟨w.heap.size + 1, 1, none⟩ = some (.int .i64 ns) := HR1.out.at1.cell 1
    go_wp2_with fail
    refine (good_any sec2 ns2 _).mono ?_
    rintro e w2 ⟨rfl, hb⟩
    rw [Hg2.out]
    have HR2 := Lib.hid (HR1.out.below hb)
    clear hb HR1 u0 u1 t0 t1
    have u0 : w2.cell? ⟨w.heap.size + 1 + 1, 0, none⟩ = some (.int .i64 sec2) := HR2.out.at0.cell 0
    have u1 : w2.cell? ⟨w.heap.size + 1 + 1, 1, none⟩ = some (.int .i64 ns2) := HR2.out.at0.cell 1
    have t0 : w2.cell? ⟨w.heap.size + 1, 0, none⟩ = some (.int .i64 sec) := HR2.out.at1.cell 0
    have t1 : w2.cell? ⟨w.heap.size + 1, 1, none⟩ = some (.int .i64 ns) := HR2.out.at1.cell 1
    go_wp2_with fail
    refine (before_any sec2 ns2 sec ns _).mono ?_
    rintro e w3 ⟨rfl, hb⟩
    rw [Hg3.out]
    have HR3 := Lib.hid (HR2.out.below hb)
    clear hb HR2 u0 u1 t0 t1
    go_wp2_with fail
    obtain ⟨L0, HL0⟩ : ∃ L0 : List (Nat × TypeId × Array Value), Hid (L0 = [(w.heap.size + 1 + 1, 24, #[.int .i64 sec2, .int .i64 ns2]), (w.heap.size + 1, 24, #[.int .i64 sec, .int .i64 ns]), (w.heap.size, 38, #[.bool false, .int .i64 dl, .int .u64 s.se, .int .u64 s.mi, .int .u64 s.ho, .int .u64 s.dom, .int .u64 s.mo, .int .u64 s.dow])]) := ⟨_, rfl⟩
    rw [← HL0.out] at HR3
    refine reg_framex (fun p => [(26, .agg #[.bool false, .int .i64 dl, .int .u64 s.se, .int .u64 s.mi, .int .u64 s.ho, .int .u64 s.dom, .int .u64 s.mo, .int .u64 s.dow]), (27, .agg #[.int .i64 sec, .int .i64 ns]), (28, .agg #[.slice none 0 0, .slice none 0 0, .slice none 0 0, .slice none 0 0]), (29, .tuple #[.agg #[.int .i64 x, .int .i64 0], .bool b]), (25, .tuple #[.agg #[.int .i64 x, .int .i64 0], .bool b]), (30, .agg #[.int .i64 x, .int .i64 0]), (31, .bool b), (7, .pointer (some ⟨p, 0, none⟩)), (8, .bool b)]) (fun p w' => Rws w w' ((p, 24, #[.int .i64 x, .int .i64 0]) :: L0)) ?reg ?hq
    case reg =>
      have HFd : Hid (Rws w w3.drew L0) := Lib.hid HR3.out.drew
      refine wp_region_held_drew (S := fun w' => Hid (Rws w w' L0)) (by kernel_rfl) HFd (fun hHeld => ?_)
      generalize w3.drew = Wd at HFd hHeld ⊢
      (try simp only [Act.put, List.getElem_toArray, List.getElem_cons_zero, List.getElem_cons_succ, List.setIfInBounds_toArray, List.set_cons_zero, List.set_cons_succ])
      refine wpAnyH_take (i := 0) (v := ?_) rfl (by kernel_rfl) (by kernel_rfl) (by kernel_rfl) (fun _ _ _ h => nomatch h.1) (Or.inl ⟨by rfl, ?_⟩) (by assumption) ?_
      rotate_left
      · (intro wx hSw; have hSx := hSw.out; rw [HL0.out] at hSx; have k0 : wx.cell? ⟨w.heap.size, 0, none⟩ = some (.bool false) := hSx.at2.cell 0; have k1 : wx.cell? ⟨w.heap.size, 1, none⟩ = some (.int .i64 dl) := hSx.at2.cell 1; have k2 : wx.cell? ⟨w.heap.size, 2, none⟩ = some (.int .u64 s.se) := hSx.at2.cell 2; have k3 : wx.cell? ⟨w.heap.size, 3, none⟩ = some (.int .u64 s.mi) := hSx.at2.cell 3; have k4 : wx.cell? ⟨w.heap.size, 4, none⟩ = some (.int .u64 s.ho) := hSx.at2.cell 4; have k5 : wx.cell? ⟨w.heap.size, 5, none⟩ = some (.int .u64 s.dom) := hSx.at2.cell 5; have k6 : wx.cell? ⟨w.heap.size, 6, none⟩ = some (.int .u64 s.mo) := hSx.at2.cell 6; have k7 : wx.cell? ⟨w.heap.size, 7, none⟩ = some (.int .u64 s.dow) := hSx.at2.cell 7; go_simp; (try with_reducible rfl))
      (try simp only [Act.put, List.getElem_toArray, List.getElem_cons_zero, List.getElem_cons_succ, List.setIfInBounds_toArray, List.set_cons_zero, List.set_cons_succ])
      refine wpAnyH_take (i := 1) (v := ?_) rfl (by kernel_rfl) (by kernel_rfl) (by kernel_rfl) (fun _ _ _ h => nomatch h.1) (Or.inl ⟨by rfl, ?_⟩) (by assumption) ?_
      rotate_left
      · (intro wx hSw; have hSx := hSw.out; rw [HL0.out] at hSx; have k0 : wx.cell? ⟨w.heap.size + 1, 0, none⟩ = some (.int .i64 sec) := hSx.at1.cell 0; have k1 : wx.cell? ⟨w.heap.size + 1, 1, none⟩ = some (.int .i64 ns) := hSx.at1.cell 1; go_simp; (try with_reducible rfl))
      (try simp only [Act.put, List.getElem_toArray, List.getElem_cons_zero, List.getElem_cons_succ, List.setIfInBounds_toArray, List.set_cons_zero, List.set_cons_succ])
      refine wpAnyH_ready (rs := [2, 7]) (by kernel_rfl) (by simp) ?_
      refine (AllReadyH.cons rfl (fun K hK => ?_) (AllReadyH.cons rfl (fun K hK => ?_) AllReadyH.nil))
      · go_simp
        go_at_call 19
        refine (cronUTC_any _).mono ?_
        rintro e v1 ⟨rfl, hb⟩
        have HF1 : Hid (Rws w v1 L0) := Lib.hid (HFd.out.below hb)
        clear hb HFd
        have HN : Hid (Rws w v1 L0) := Lib.hid HF1.out
        refine hK.out _ _ HN (fun hH2 => ?_)
        clear hK K hHeld
        have hHeld := hH2
        clear hH2
        (try simp only [Act.put, List.getElem_toArray, List.getElem_cons_zero, List.getElem_cons_succ, List.setIfInBounds_toArray, List.set_cons_zero, List.set_cons_succ])
        refine wpAnyH_ready (rs := [3, 7]) (by kernel_rfl) (by simp) ?_
        refine (AllReadyH.cons rfl (fun K hK => ?_) (AllReadyH.cons rfl (fun K hK => ?_) AllReadyH.nil))
        · go_simp
          go_at_call 20
          refine (implNext_fix s sec ns h0 h1 first Y0 Hf HY0 yb0 r x b hr hx hok dl hn _).mono ?_
          rintro e v2 ⟨rfl, hb⟩
          have HF2 : Hid (Rws w v2 L0) := Lib.hid (HF1.out.below hb)
          clear hb HF1
          have HN : Hid (Rws w v2 L0) := Lib.hid HF2.out
          refine hK.out _ _ HN (fun hH2 => ?_)
          clear hK K hHeld
          have hHeld := hH2
          clear hH2
          (try simp only [Act.put, List.getElem_toArray, List.getElem_cons_zero, List.getElem_cons_succ, List.setIfInBounds_toArray, List.set_cons_zero, List.set_cons_succ])
          refine wpAnyH_take (i := 4) (v := ?_) rfl (by kernel_rfl) (by kernel_rfl) (by kernel_rfl) (fun _ _ _ h => nomatch h.1) (Or.inl ⟨by rfl, ?_⟩) (by assumption) ?_
          rotate_left
          · (intro wx hSw; go_simp; (try with_reducible rfl))
          (try simp only [Act.put, List.getElem_toArray, List.getElem_cons_zero, List.getElem_cons_succ, List.setIfInBounds_toArray, List.set_cons_zero, List.set_cons_succ])
          refine wpAnyH_take (i := 5) (v := ?_) rfl (by kernel_rfl) (by kernel_rfl) (by kernel_rfl) (fun _ _ _ h => nomatch h.1) (Or.inl ⟨by rfl, ?_⟩) (by assumption) ?_
          rotate_left
          · (intro wx hSw; go_simp; (try with_reducible rfl))
          (try simp only [Act.put, List.getElem_toArray, List.getElem_cons_zero, List.getElem_cons_succ, List.setIfInBounds_toArray, List.set_cons_zero, List.set_cons_succ])
          refine wpAnyH_take (i := 6) (v := ?_) rfl (by kernel_rfl) (by kernel_rfl) (by kernel_rfl) (fun _ _ _ h => nomatch h.1) (Or.inl ⟨by rfl, ?_⟩) (by assumption) ?_
          rotate_left
          · (intro wx hSw; go_simp; (try with_reducible rfl))
          (try simp only [Act.put, List.getElem_toArray, List.getElem_cons_zero, List.getElem_cons_succ, List.setIfInBounds_toArray, List.set_cons_zero, List.set_cons_succ])
          refine wpAnyH_ready (rs := [7]) (by kernel_rfl) (by simp) ?_
          refine (AllReadyH.cons rfl (fun K hK => ?_) AllReadyH.nil)
          go_simp
          obtain ⟨p3, hp⟩ : ∃ p3, p3 = v2.heap.size := ⟨_, rfl⟩
          (try rw [← hp])
          have HLp3 : Hid ((∀ r ∈ L0, r.1 < p3) ∧ w.heap.size ≤ p3) := Lib.hid ⟨by rw [hp]; exact HF2.out.lt, by rw [hp]; exact HF2.out.2.size⟩
          have HF3 : Hid (Rws w (v2.alloc (.cells #[.int .i64 0, .int .i64 0] 24)) ((p3, 24, #[.int .i64 0, .int .i64 0]) :: L0)) := Lib.hid (HF2.out.alloc p3 hp _ _)
          clear HF2 hp
          refine kHeld hK.out (W := v2.alloc (.cells #[.int .i64 0, .int .i64 0] 24)) (Lib.hid HF3.out.tail) (fun hH2 => ?_)
          clear hK K hHeld
          have hHeld := hH2
          clear hH2
          generalize v2.alloc (.cells #[.int .i64 0, .int .i64 0] 24) = a3 at hHeld HF3 ⊢
          (try simp only [Act.put, List.getElem_toArray, List.getElem_cons_zero, List.getElem_cons_succ, List.setIfInBounds_toArray, List.set_cons_zero, List.set_cons_succ])
          refine wpAnyH_ready (rs := [8]) (by kernel_rfl) (by simp) ?_
          refine (AllReadyH.cons rfl (fun K hK => ?_) AllReadyH.nil)
          have c0 : a3.cell? ⟨p3, 0, none⟩ = some (.int .i64 0) := HF3.out.at0.cell 0
          have c1 : a3.cell? ⟨p3, 1, none⟩ = some (.int .i64 0) := HF3.out.at0.cell 1
          have f0 := HF3.out.at0.free 0
          have f1 := HF3.out.at0.free 1
          have HE : Hid (Rws w ((a3.setCell ⟨p3, 0, none⟩ (.int .i64 x)).setCell ⟨p3, 1, none⟩ (.int .i64 0)) ((p3, 24, #[.int .i64 x, .int .i64 0]) :: L0)) := Lib.hid (HF3.out.set2 HLp3.out.1 HLp3.out.2 _ _)
          have HN : Hid (Rws w ((a3.setCell ⟨p3, 0, none⟩ (.int .i64 x)).setCell ⟨p3, 1, none⟩ (.int .i64 0)) L0) := Lib.hid HE.out.tail
          go_simp
          refine hK.out _ _ HN (fun hH2 => ?_)
          clear hK K hHeld
          have hHeld := hH2
          clear hH2
          (try simp only [Act.put, List.getElem_toArray, List.getElem_cons_zero, List.getElem_cons_succ, List.setIfInBounds_toArray, List.set_cons_zero, List.set_cons_succ])
          refine wpAnyH_take (i := 9) (v := ?_) rfl (by kernel_rfl) (by kernel_rfl) (by kernel_rfl) (fun _ _ _ h => nomatch h.1) (Or.inl ⟨by rfl, ?_⟩) (by assumption) ?_
          rotate_left
          · (intro wx hSw; go_simp; (try with_reducible rfl))
          (try simp only [Act.put, List.getElem_toArray, List.getElem_cons_zero, List.getElem_cons_succ, List.setIfInBounds_toArray, List.set_cons_zero, List.set_cons_succ])
          refine wpAnyH_done (by kernel_rfl) ?_ _
          exact ⟨rfl, p3, by (simp only [puts, Act.put, List.setIfInBounds_toArray, List.set_cons_zero, List.set_cons_succ]), HE.out⟩
        · go_simp
          obtain ⟨p4, hp⟩ : ∃ p4, p4 = v1.heap.size := ⟨_, rfl⟩
          (try rw [← hp])
          have HLp4 : Hid ((∀ r ∈ L0, r.1 < p4) ∧ w.heap.size ≤ p4) := Lib.hid ⟨by rw [hp]; exact HF1.out.lt, by rw [hp]; exact HF1.out.2.size⟩
          have HF4 : Hid (Rws w (v1.alloc (.cells #[.int .i64 0, .int .i64 0] 24)) ((p4, 24, #[.int .i64 0, .int .i64 0]) :: L0)) := Lib.hid (HF1.out.alloc p4 hp _ _)
          clear HF1 hp
          refine kHeld hK.out (W := v1.alloc (.cells #[.int .i64 0, .int .i64 0] 24)) (Lib.hid HF4.out.tail) (fun hH2 => ?_)
          clear hK K hHeld
          have hHeld := hH2
          clear hH2
          generalize v1.alloc (.cells #[.int .i64 0, .int .i64 0] 24) = a4 at hHeld HF4 ⊢
          (try simp only [Act.put, List.getElem_toArray, List.getElem_cons_zero, List.getElem_cons_succ, List.setIfInBounds_toArray, List.set_cons_zero, List.set_cons_succ])
          refine wpAnyH_ready (rs := [3]) (by kernel_rfl) (by simp) ?_
          refine (AllReadyH.cons rfl (fun K hK => ?_) AllReadyH.nil)
          go_simp
          go_at_call 20
          refine (implNext_fix s sec ns h0 h1 first Y0 Hf HY0 yb0 r x b hr hx hok dl hn _).mono ?_
          rintro e v5 ⟨rfl, hb⟩
          have HF5 : Hid (Rws w v5 ((p4, 24, #[.int .i64 0, .int .i64 0]) :: L0)) := Lib.hid (HF4.out.below hb)
          clear hb HF4
          have HN : Hid (Rws w v5 L0) := Lib.hid HF5.out.tail
          refine hK.out _ _ HN (fun hH2 => ?_)
          clear hK K hHeld
          have hHeld := hH2
          clear hH2
          (try simp only [Act.put, List.getElem_toArray, List.getElem_cons_zero, List.getElem_cons_succ, List.setIfInBounds_toArray, List.set_cons_zero, List.set_cons_succ])
          refine wpAnyH_take (i := 4) (v := ?_) rfl (by kernel_rfl) (by kernel_rfl) (by kernel_rfl) (fun _ _ _ h => nomatch h.1) (Or.inl ⟨by rfl, ?_⟩) (by assumption) ?_
          rotate_left
          · (intro wx hSw; go_simp; (try with_reducible rfl))
          (try simp only [Act.put, List.getElem_toArray, List.getElem_cons_zero, List.getElem_cons_succ, List.setIfInBounds_toArray, List.set_cons_zero, List.set_cons_succ])
          refine wpAnyH_take (i := 5) (v := ?_) rfl (by kernel_rfl) (by kernel_rfl) (by kernel_rfl) (fun _ _ _ h => nomatch h.1) (Or.inl ⟨by rfl, ?_⟩) (by assumption) ?_
          rotate_left
          · (intro wx hSw; go_simp; (try with_reducible rfl))
          (try simp only [Act.put, List.getElem_toArray, List.getElem_cons_zero, List.getElem_cons_succ, List.setIfInBounds_toArray, List.set_cons_zero, List.set_cons_succ])
          refine wpAnyH_take (i := 6) (v := ?_) rfl (by kernel_rfl) (by kernel_rfl) (by kernel_rfl) (fun _ _ _ h => nomatch h.1) (Or.inl ⟨by rfl, ?_⟩) (by assumption) ?_
          rotate_left
          · (intro wx hSw; go_simp; (try with_reducible rfl))
          (try simp only [Act.put, List.getElem_toArray, List.getElem_cons_zero, List.getElem_cons_succ, List.setIfInBounds_toArray, List.set_cons_zero, List.set_cons_succ])
          refine wpAnyH_ready (rs := [8]) (by kernel_rfl) (by simp) ?_
          refine (AllReadyH.cons rfl (fun K hK => ?_) AllReadyH.nil)
          have c0 : v5.cell? ⟨p4, 0, none⟩ = some (.int .i64 0) := HF5.out.at0.cell 0
          have c1 : v5.cell? ⟨p4, 1, none⟩ = some (.int .i64 0) := HF5.out.at0.cell 1
          have f0 := HF5.out.at0.free 0
          have f1 := HF5.out.at0.free 1
          have HE : Hid (Rws w ((v5.setCell ⟨p4, 0, none⟩ (.int .i64 x)).setCell ⟨p4, 1, none⟩ (.int .i64 0)) ((p4, 24, #[.int .i64 x, .int .i64 0]) :: L0)) := Lib.hid (HF5.out.set2 HLp4.out.1 HLp4.out.2 _ _)
          have HN : Hid (Rws w ((v5.setCell ⟨p4, 0, none⟩ (.int .i64 x)).setCell ⟨p4, 1, none⟩ (.int .i64 0)) L0) := Lib.hid HE.out.tail
          go_simp
          refine hK.out _ _ HN (fun hH2 => ?_)
          clear hK K hHeld
          have hHeld := hH2
          clear hH2
          (try simp only [Act.put, List.getElem_toArray, List.getElem_cons_zero, List.getElem_cons_succ, List.setIfInBounds_toArray, List.set_cons_zero, List.set_cons_succ])
          refine wpAnyH_take (i := 9) (v := ?_) rfl (by kernel_rfl) (by kernel_rfl) (by kernel_rfl) (fun _ _ _ h => nomatch h.1) (Or.inl ⟨by rfl, ?_⟩) (by assumption) ?_
          rotate_left
          · (intro wx hSw; go_simp; (try with_reducible rfl))
          (try simp only [Act.put, List.getElem_toArray, List.getElem_cons_zero, List.getElem_cons_succ, List.setIfInBounds_toArray, List.set_cons_zero, List.set_cons_succ])
          refine wpAnyH_done (by kernel_rfl) ?_ _
          exact ⟨rfl, p4, by (simp only [puts, Act.put, List.setIfInBounds_toArray, List.set_cons_zero, List.set_cons_succ]), HE.out⟩
      · go_simp
        obtain ⟨p6, hp⟩ : ∃ p6, p6 = Wd.heap.size := ⟨_, rfl⟩
        (try rw [← hp])
        have HLp6 : Hid ((∀ r ∈ L0, r.1 < p6) ∧ w.heap.size ≤ p6) := Lib.hid ⟨by rw [hp]; exact HFd.out.lt, by rw [hp]; exact HFd.out.2.size⟩
        have HF6 : Hid (Rws w (Wd.alloc (.cells #[.int .i64 0, .int .i64 0] 24)) ((p6, 24, #[.int .i64 0, .int .i64 0]) :: L0)) := Lib.hid (HFd.out.alloc p6 hp _ _)
        clear HFd hp
        refine kHeld hK.out (W := Wd.alloc (.cells #[.int .i64 0, .int .i64 0] 24)) (Lib.hid HF6.out.tail) (fun hH2 => ?_)
        clear hK K hHeld
        have hHeld := hH2
        clear hH2
        generalize Wd.alloc (.cells #[.int .i64 0, .int .i64 0] 24) = a6 at hHeld HF6 ⊢
        (try simp only [Act.put, List.getElem_toArray, List.getElem_cons_zero, List.getElem_cons_succ, List.setIfInBounds_toArray, List.set_cons_zero, List.set_cons_succ])
        refine wpAnyH_ready (rs := [2]) (by kernel_rfl) (by simp) ?_
        refine (AllReadyH.cons rfl (fun K hK => ?_) AllReadyH.nil)
        go_simp
        go_at_call 19
        refine (cronUTC_any _).mono ?_
        rintro e v7 ⟨rfl, hb⟩
        have HF7 : Hid (Rws w v7 ((p6, 24, #[.int .i64 0, .int .i64 0]) :: L0)) := Lib.hid (HF6.out.below hb)
        clear hb HF6
        have HN : Hid (Rws w v7 L0) := Lib.hid HF7.out.tail
        refine hK.out _ _ HN (fun hH2 => ?_)
        clear hK K hHeld
        have hHeld := hH2
        clear hH2
        (try simp only [Act.put, List.getElem_toArray, List.getElem_cons_zero, List.getElem_cons_succ, List.setIfInBounds_toArray, List.set_cons_zero, List.set_cons_succ])
        refine wpAnyH_ready (rs := [3]) (by kernel_rfl) (by simp) ?_
        refine (AllReadyH.cons rfl (fun K hK => ?_) AllReadyH.nil)
        go_simp
        go_at_call 20
        refine (implNext_fix s sec ns h0 h1 first Y0 Hf HY0 yb0 r x b hr hx hok dl hn _).mono ?_
        rintro e v8 ⟨rfl, hb⟩
        have HF8 : Hid (Rws w v8 ((p6, 24, #[.int .i64 0, .int .i64 0]) :: L0)) := Lib.hid (HF7.out.below hb)
        clear hb HF7
        have HN : Hid (Rws w v8 L0) := Lib.hid HF8.out.tail
        refine hK.out _ _ HN (fun hH2 => ?_)
        clear hK K hHeld
        have hHeld := hH2
        clear hH2
        (try simp only [Act.put, List.getElem_toArray, List.getElem_cons_zero, List.getElem_cons_succ, List.setIfInBounds_toArray, List.set_cons_zero, List.set_cons_succ])
        refine wpAnyH_take (i := 4) (v := ?_) rfl (by kernel_rfl) (by kernel_rfl) (by kernel_rfl) (fun _ _ _ h => nomatch h.1) (Or.inl ⟨by rfl, ?_⟩) (by assumption) ?_
        rotate_left
        · (intro wx hSw; go_simp; (try with_reducible rfl))
        (try simp only [Act.put, List.getElem_toArray, List.getElem_cons_zero, List.getElem_cons_succ, List.setIfInBounds_toArray, List.set_cons_zero, List.set_cons_succ])
        refine wpAnyH_take (i := 5) (v := ?_) rfl (by kernel_rfl) (by kernel_rfl) (by kernel_rfl) (fun _ _ _ h => nomatch h.1) (Or.inl ⟨by rfl, ?_⟩) (by assumption) ?_
        rotate_left
        · (intro wx hSw; go_simp; (try with_reducible rfl))
        (try simp only [Act.put, List.getElem_toArray, List.getElem_cons_zero, List.getElem_cons_succ, List.setIfInBounds_toArray, List.set_cons_zero, List.set_cons_succ])
        refine wpAnyH_take (i := 6) (v := ?_) rfl (by kernel_rfl) (by kernel_rfl) (by kernel_rfl) (fun _ _ _ h => nomatch h.1) (Or.inl ⟨by rfl, ?_⟩) (by assumption) ?_
        rotate_left
        · (intro wx hSw; go_simp; (try with_reducible rfl))
        (try simp only [Act.put, List.getElem_toArray, List.getElem_cons_zero, List.getElem_cons_succ, List.setIfInBounds_toArray, List.set_cons_zero, List.set_cons_succ])
        refine wpAnyH_ready (rs := [8]) (by kernel_rfl) (by simp) ?_
        refine (AllReadyH.cons rfl (fun K hK => ?_) AllReadyH.nil)
        have c0 : v8.cell? ⟨p6, 0, none⟩ = some (.int .i64 0) := HF8.out.at0.cell 0
        have c1 : v8.cell? ⟨p6, 1, none⟩ = some (.int .i64 0) := HF8.out.at0.cell 1
        have f0 := HF8.out.at0.free 0
        have f1 := HF8.out.at0.free 1
        have HE : Hid (Rws w ((v8.setCell ⟨p6, 0, none⟩ (.int .i64 x)).setCell ⟨p6, 1, none⟩ (.int .i64 0)) ((p6, 24, #[.int .i64 x, .int .i64 0]) :: L0)) := Lib.hid (HF8.out.set2 HLp6.out.1 HLp6.out.2 _ _)
        have HN : Hid (Rws w ((v8.setCell ⟨p6, 0, none⟩ (.int .i64 x)).setCell ⟨p6, 1, none⟩ (.int .i64 0)) L0) := Lib.hid HE.out.tail
        go_simp
        refine hK.out _ _ HN (fun hH2 => ?_)
        clear hK K hHeld
        have hHeld := hH2
        clear hH2
        (try simp only [Act.put, List.getElem_toArray, List.getElem_cons_zero, List.getElem_cons_succ, List.setIfInBounds_toArray, List.set_cons_zero, List.set_cons_succ])
        refine wpAnyH_take (i := 9) (v := ?_) rfl (by kernel_rfl) (by kernel_rfl) (by kernel_rfl) (fun _ _ _ h => nomatch h.1) (Or.inl ⟨by rfl, ?_⟩) (by assumption) ?_
        rotate_left
        · (intro wx hSw; go_simp; (try with_reducible rfl))
        (try simp only [Act.put, List.getElem_toArray, List.getElem_cons_zero, List.getElem_cons_succ, List.setIfInBounds_toArray, List.set_cons_zero, List.set_cons_succ])
        refine wpAnyH_done (by kernel_rfl) ?_ _
        exact ⟨rfl, p6, by (simp only [puts, Act.put, List.setIfInBounds_toArray, List.set_cons_zero, List.set_cons_succ]), HE.out⟩
    case hq =>
      rintro p1 W1 hF
      rw [HL0.out] at hF
      (simp only [puts, Act.put, List.setIfInBounds_toArray, List.set_cons_zero, List.set_cons_succ])
      have HR1 := Lib.hid hF
      clear hF HL0 HR3 L0
      cases b with
      | false =>
        go_wp2_with fail
        obtain ⟨L0, HL0⟩ : ∃ L0 : List (Nat × TypeId × Array Value), Hid (L0 = [(p1, 24, #[.int .i64 x, .int .i64 0]), (w.heap.size + 1 + 1, 24, #[.int .i64 sec2, .int .i64 ns2]), (w.heap.size + 1, 24, #[.int .i64 sec, .int .i64 ns]), (w.heap.size, 38, #[.bool false, .int .i64 dl, .int .u64 s.se, .int .u64 s.mi, .int .u64 s.ho, .int .u64 s.dom, .int .u64 s.mo, .int .u64 s.dow])]) := ⟨_, rfl⟩
        rw [← HL0.out] at HR1
        have HFd : Hid (Rws w W1.drew L0) := Lib.hid HR1.out.drew
        refine wp_region_held_drew (S := fun w' => Hid (Rws w w' L0)) (by kernel_rfl) HFd (fun hHeld => ?_)
        clear HFd
        generalize W1.drew = Wd at hHeld ⊢
        (try simp only [Act.put, List.getElem_toArray, List.getElem_cons_zero, List.getElem_cons_succ, List.setIfInBounds_toArray, List.set_cons_zero, List.set_cons_succ])
        refine wpAnyH_take (i := 0) (v := ?_) rfl (by kernel_rfl) (by kernel_rfl) (by kernel_rfl) (fun _ _ _ h => h) (Or.inl ⟨by rfl, ?_⟩) (by assumption) ?_
        rotate_left
        · (intro wx hSw; have hSx := hSw.out; rw [HL0.out] at hSx; have k0 : wx.cell? ⟨w.heap.size, 0, none⟩ = some (.bool false) := hSx.at3.cell 0; have k1 : wx.cell? ⟨w.heap.size, 1, none⟩ = some (.int .i64 dl) := hSx.at3.cell 1; have k2 : wx.cell? ⟨w.heap.size, 2, none⟩ = some (.int .u64 s.se) := hSx.at3.cell 2; have k3 : wx.cell? ⟨w.heap.size, 3, none⟩ = some (.int .u64 s.mi) := hSx.at3.cell 3; have k4 : wx.cell? ⟨w.heap.size, 4, none⟩ = some (.int .u64 s.ho) := hSx.at3.cell 4; have k5 : wx.cell? ⟨w.heap.size, 5, none⟩ = some (.int .u64 s.dom) := hSx.at3.cell 5; have k6 : wx.cell? ⟨w.heap.size, 6, none⟩ = some (.int .u64 s.mo) := hSx.at3.cell 6; have k7 : wx.cell? ⟨w.heap.size, 7, none⟩ = some (.int .u64 s.dow) := hSx.at3.cell 7; go_simp; (try with_reducible rfl))
        (try simp only [Act.put, List.getElem_toArray, List.getElem_cons_zero, List.getElem_cons_succ, List.setIfInBounds_toArray, List.set_cons_zero, List.set_cons_succ])
        refine wpAnyH_take (i := 1) (v := ?_) rfl (by kernel_rfl) (by kernel_rfl) (by kernel_rfl) (fun _ _ _ h => h) (Or.inl ⟨by rfl, ?_⟩) (by assumption) ?_
        rotate_left
        · (intro wx hSw; have hSx := hSw.out; rw [HL0.out] at hSx; have k0 : wx.cell? ⟨w.heap.size + 1, 0, none⟩ = some (.int .i64 sec) := hSx.at2.cell 0; have k1 : wx.cell? ⟨w.heap.size + 1, 1, none⟩ = some (.int .i64 ns) := hSx.at2.cell 1; go_simp; (try with_reducible rfl))
        (try simp only [Act.put, List.getElem_toArray, List.getElem_cons_zero, List.getElem_cons_succ, List.setIfInBounds_toArray, List.set_cons_zero, List.set_cons_succ])
        refine wpAnyH_ready (rs := [2]) (by kernel_rfl) (by simp) ?_
        refine (AllReadyH.cons rfl (fun K hK => ?_) AllReadyH.nil)
        go_simp
        go_at_call 19
        refine (cronUTC_any _).mono ?_
        rintro e vq0 ⟨rfl, hb⟩
        have HN : Hid (Rws w vq0 L0) := Lib.hid (hHeld.out.below hb)
        clear hb
        refine hK.out _ _ HN (fun hH2 => ?_)
        clear hK K hHeld 
        have hHeld := hH2
        clear hH2
        (try simp only [Act.put, List.getElem_toArray, List.getElem_cons_zero, List.getElem_cons_succ, List.setIfInBounds_toArray, List.set_cons_zero, List.set_cons_succ])
        refine wpAnyH_ready (rs := [3]) (by kernel_rfl) (by simp) ?_
        refine (AllReadyH.cons rfl (fun K hK => ?_) AllReadyH.nil)
        go_simp
        go_at_call 21
        refine (none_any s sec ns h0 h1 first Y0 Hf HY0 yb0 r x false hr hx hok dl _).mono ?_
        rintro e vq1 ⟨rfl, hb⟩
        have HN : Hid (Rws w vq1 L0) := Lib.hid (hHeld.out.below hb)
        clear hb
        refine hK.out _ _ HN (fun hH2 => ?_)
        clear hK K hHeld 
        have hHeld := hH2
        clear hH2
        (try simp only [Act.put, List.getElem_toArray, List.getElem_cons_zero, List.getElem_cons_succ, List.setIfInBounds_toArray, List.set_cons_zero, List.set_cons_succ])
        refine wpAnyH_take (i := 4) (v := ?_) rfl (by kernel_rfl) (by kernel_rfl) (by kernel_rfl) (fun _ _ _ h => h) (Or.inl ⟨by rfl, ?_⟩) (by assumption) ?_
        rotate_left
        · (intro wx hSw; go_simp; (try with_reducible rfl))
        (try simp only [Act.put, List.getElem_toArray, List.getElem_cons_zero, List.getElem_cons_succ, List.setIfInBounds_toArray, List.set_cons_zero, List.set_cons_succ])
        refine wpAnyH_done (by kernel_rfl) ?_ _
        go_wp2_with fail
        go_ret
        exact ⟨rfl, hHeld.out.2⟩
      | true =>
        have hans := Lib.hid (ans_true hx.out rfl)
        go_wp2_with fail
        obtain ⟨L0, HL0⟩ : ∃ L0 : List (Nat × TypeId × Array Value), Hid (L0 = [(p1, 24, #[.int .i64 x, .int .i64 0]), (w.heap.size + 1 + 1, 24, #[.int .i64 sec2, .int .i64 ns2]), (w.heap.size + 1, 24, #[.int .i64 sec, .int .i64 ns]), (w.heap.size, 38, #[.bool false, .int .i64 dl, .int .u64 s.se, .int .u64 s.mi, .int .u64 s.ho, .int .u64 s.dom, .int .u64 s.mo, .int .u64 s.dow])]) := ⟨_, rfl⟩
        rw [← HL0.out] at HR1
        refine reg_framex (fun p => [(39, .agg #[.bool false, .int .i64 dl, .int .u64 s.se, .int .u64 s.mi, .int .u64 s.ho, .int .u64 s.dom, .int .u64 s.mo, .int .u64 s.dow]), (40, .agg #[.int .i64 sec2, .int .i64 ns2]), (41, .agg #[.slice none 0 0, .slice none 0 0, .slice none 0 0, .slice none 0 0]), (42, .tuple #[.agg #[.int .i64 x2, .int .i64 0], .bool b2]), (38, .tuple #[.agg #[.int .i64 x2, .int .i64 0], .bool b2]), (43, .agg #[.int .i64 x2, .int .i64 0]), (44, .bool b2), (9, .pointer (some ⟨p, 0, none⟩)), (10, .bool b2)]) (fun p w' => Rws w w' ((p, 24, #[.int .i64 x2, .int .i64 0]) :: L0)) ?reg ?hq
        case reg =>
          have HFd : Hid (Rws w W1.drew L0) := Lib.hid HR1.out.drew
          refine wp_region_held_drew (S := fun w' => Hid (Rws w w' L0)) (by kernel_rfl) HFd (fun hHeld => ?_)
          generalize W1.drew = Wd at HFd hHeld ⊢
          (try simp only [Act.put, List.getElem_toArray, List.getElem_cons_zero, List.getElem_cons_succ, List.setIfInBounds_toArray, List.set_cons_zero, List.set_cons_succ])
          refine wpAnyH_take (i := 0) (v := ?_) rfl (by kernel_rfl) (by kernel_rfl) (by kernel_rfl) (fun _ _ _ h => nomatch h.1) (Or.inl ⟨by rfl, ?_⟩) (by assumption) ?_
          rotate_left
          · (intro wx hSw; have hSx := hSw.out; rw [HL0.out] at hSx; have k0 : wx.cell? ⟨w.heap.size, 0, none⟩ = some (.bool false) := hSx.at3.cell 0; have k1 : wx.cell? ⟨w.heap.size, 1, none⟩ = some (.int .i64 dl) := hSx.at3.cell 1; have k2 : wx.cell? ⟨w.heap.size, 2, none⟩ = some (.int .u64 s.se) := hSx.at3.cell 2; have k3 : wx.cell? ⟨w.heap.size, 3, none⟩ = some (.int .u64 s.mi) := hSx.at3.cell 3; have k4 : wx.cell? ⟨w.heap.size, 4, none⟩ = some (.int .u64 s.ho) := hSx.at3.cell 4; have k5 : wx.cell? ⟨w.heap.size, 5, none⟩ = some (.int .u64 s.dom) := hSx.at3.cell 5; have k6 : wx.cell? ⟨w.heap.size, 6, none⟩ = some (.int .u64 s.mo) := hSx.at3.cell 6; have k7 : wx.cell? ⟨w.heap.size, 7, none⟩ = some (.int .u64 s.dow) := hSx.at3.cell 7; go_simp; (try with_reducible rfl))
          (try simp only [Act.put, List.getElem_toArray, List.getElem_cons_zero, List.getElem_cons_succ, List.setIfInBounds_toArray, List.set_cons_zero, List.set_cons_succ])
          refine wpAnyH_take (i := 1) (v := ?_) rfl (by kernel_rfl) (by kernel_rfl) (by kernel_rfl) (fun _ _ _ h => nomatch h.1) (Or.inl ⟨by rfl, ?_⟩) (by assumption) ?_
          rotate_left
          · (intro wx hSw; have hSx := hSw.out; rw [HL0.out] at hSx; have k0 : wx.cell? ⟨w.heap.size + 1 + 1, 0, none⟩ = some (.int .i64 sec2) := hSx.at1.cell 0; have k1 : wx.cell? ⟨w.heap.size + 1 + 1, 1, none⟩ = some (.int .i64 ns2) := hSx.at1.cell 1; go_simp; (try with_reducible rfl))
          (try simp only [Act.put, List.getElem_toArray, List.getElem_cons_zero, List.getElem_cons_succ, List.setIfInBounds_toArray, List.set_cons_zero, List.set_cons_succ])
          refine wpAnyH_ready (rs := [2, 7]) (by kernel_rfl) (by simp) ?_
          refine (AllReadyH.cons rfl (fun K hK => ?_) (AllReadyH.cons rfl (fun K hK => ?_) AllReadyH.nil))
          · go_simp
            go_at_call 19
            refine (cronUTC_any _).mono ?_
            rintro e v1 ⟨rfl, hb⟩
            have HF1 : Hid (Rws w v1 L0) := Lib.hid (HFd.out.below hb)
            clear hb HFd
            have HN : Hid (Rws w v1 L0) := Lib.hid HF1.out
            refine hK.out _ _ HN (fun hH2 => ?_)
            clear hK K hHeld
            have hHeld := hH2
            clear hH2
            (try simp only [Act.put, List.getElem_toArray, List.getElem_cons_zero, List.getElem_cons_succ, List.setIfInBounds_toArray, List.set_cons_zero, List.set_cons_succ])
            refine wpAnyH_ready (rs := [3, 7]) (by kernel_rfl) (by simp) ?_
            refine (AllReadyH.cons rfl (fun K hK => ?_) (AllReadyH.cons rfl (fun K hK => ?_) AllReadyH.nil))
            · go_simp
              go_at_call 20
              refine (implNext_fix s sec2 ns2 h02 h12 first2 Y02 Hf2 HY02 yb02 r2 x2 b2 hr2 hx2 hok dl hn2 _).mono ?_
              rintro e v2 ⟨rfl, hb⟩
              have HF2 : Hid (Rws w v2 L0) := Lib.hid (HF1.out.below hb)
              clear hb HF1
              have HN : Hid (Rws w v2 L0) := Lib.hid HF2.out
              refine hK.out _ _ HN (fun hH2 => ?_)
              clear hK K hHeld
              have hHeld := hH2
              clear hH2
              (try simp only [Act.put, List.getElem_toArray, List.getElem_cons_zero, List.getElem_cons_succ, List.setIfInBounds_toArray, List.set_cons_zero, List.set_cons_succ])
              refine wpAnyH_take (i := 4) (v := ?_) rfl (by kernel_rfl) (by kernel_rfl) (by kernel_rfl) (fun _ _ _ h => nomatch h.1) (Or.inl ⟨by rfl, ?_⟩) (by assumption) ?_
              rotate_left
              · (intro wx hSw; go_simp; (try with_reducible rfl))
              (try simp only [Act.put, List.getElem_toArray, List.getElem_cons_zero, List.getElem_cons_succ, List.setIfInBounds_toArray, List.set_cons_zero, List.set_cons_succ])
              refine wpAnyH_take (i := 5) (v := ?_) rfl (by kernel_rfl) (by kernel_rfl) (by kernel_rfl) (fun _ _ _ h => nomatch h.1) (Or.inl ⟨by rfl, ?_⟩) (by assumption) ?_
              rotate_left
              · (intro wx hSw; go_simp; (try with_reducible rfl))
              (try simp only [Act.put, List.getElem_toArray, List.getElem_cons_zero, List.getElem_cons_succ, List.setIfInBounds_toArray, List.set_cons_zero, List.set_cons_succ])
              refine wpAnyH_take (i := 6) (v := ?_) rfl (by kernel_rfl) (by kernel_rfl) (by kernel_rfl) (fun _ _ _ h => nomatch h.1) (Or.inl ⟨by rfl, ?_⟩) (by assumption) ?_
              rotate_left
              · (intro wx hSw; go_simp; (try with_reducible rfl))
              (try simp only [Act.put, List.getElem_toArray, List.getElem_cons_zero, List.getElem_cons_succ, List.setIfInBounds_toArray, List.set_cons_zero, List.set_cons_succ])
              refine wpAnyH_ready (rs := [7]) (by kernel_rfl) (by simp) ?_
              refine (AllReadyH.cons rfl (fun K hK => ?_) AllReadyH.nil)
              go_simp
              obtain ⟨p3, hp⟩ : ∃ p3, p3 = v2.heap.size := ⟨_, rfl⟩
              (try rw [← hp])
              have HLp3 : Hid ((∀ r ∈ L0, r.1 < p3) ∧ w.heap.size ≤ p3) := Lib.hid ⟨by rw [hp]; exact HF2.out.lt, by rw [hp]; exact HF2.out.2.size⟩
              have HF3 : Hid (Rws w (v2.alloc (.cells #[.int .i64 0, .int .i64 0] 24)) ((p3, 24, #[.int .i64 0, .int .i64 0]) :: L0)) := Lib.hid (HF2.out.alloc p3 hp _ _)
              clear HF2 hp
              refine kHeld hK.out (W := v2.alloc (.cells #[.int .i64 0, .int .i64 0] 24)) (Lib.hid HF3.out.tail) (fun hH2 => ?_)
              clear hK K hHeld
              have hHeld := hH2
              clear hH2
              generalize v2.alloc (.cells #[.int .i64 0, .int .i64 0] 24) = a3 at hHeld HF3 ⊢
              (try simp only [Act.put, List.getElem_toArray, List.getElem_cons_zero, List.getElem_cons_succ, List.setIfInBounds_toArray, List.set_cons_zero, List.set_cons_succ])
              refine wpAnyH_ready (rs := [8]) (by kernel_rfl) (by simp) ?_
              refine (AllReadyH.cons rfl (fun K hK => ?_) AllReadyH.nil)
              have c0 : a3.cell? ⟨p3, 0, none⟩ = some (.int .i64 0) := HF3.out.at0.cell 0
              have c1 : a3.cell? ⟨p3, 1, none⟩ = some (.int .i64 0) := HF3.out.at0.cell 1
              have f0 := HF3.out.at0.free 0
              have f1 := HF3.out.at0.free 1
              have HE : Hid (Rws w ((a3.setCell ⟨p3, 0, none⟩ (.int .i64 x2)).setCell ⟨p3, 1, none⟩ (.int .i64 0)) ((p3, 24, #[.int .i64 x2, .int .i64 0]) :: L0)) := Lib.hid (HF3.out.set2 HLp3.out.1 HLp3.out.2 _ _)
              have HN : Hid (Rws w ((a3.setCell ⟨p3, 0, none⟩ (.int .i64 x2)).setCell ⟨p3, 1, none⟩ (.int .i64 0)) L0) := Lib.hid HE.out.tail
              go_simp
              refine hK.out _ _ HN (fun hH2 => ?_)
              clear hK K hHeld
              have hHeld := hH2
              clear hH2
              (try simp only [Act.put, List.getElem_toArray, List.getElem_cons_zero, List.getElem_cons_succ, List.setIfInBounds_toArray, List.set_cons_zero, List.set_cons_succ])
              refine wpAnyH_take (i := 9) (v := ?_) rfl (by kernel_rfl) (by kernel_rfl) (by kernel_rfl) (fun _ _ _ h => nomatch h.1) (Or.inl ⟨by rfl, ?_⟩) (by assumption) ?_
              rotate_left
              · (intro wx hSw; go_simp; (try with_reducible rfl))
              (try simp only [Act.put, List.getElem_toArray, List.getElem_cons_zero, List.getElem_cons_succ, List.setIfInBounds_toArray, List.set_cons_zero, List.set_cons_succ])
              refine wpAnyH_done (by kernel_rfl) ?_ _
              exact ⟨rfl, p3, by (simp only [puts, Act.put, List.setIfInBounds_toArray, List.set_cons_zero, List.set_cons_succ]), HE.out⟩
            · go_simp
              obtain ⟨p4, hp⟩ : ∃ p4, p4 = v1.heap.size := ⟨_, rfl⟩
              (try rw [← hp])
              have HLp4 : Hid ((∀ r ∈ L0, r.1 < p4) ∧ w.heap.size ≤ p4) := Lib.hid ⟨by rw [hp]; exact HF1.out.lt, by rw [hp]; exact HF1.out.2.size⟩
              have HF4 : Hid (Rws w (v1.alloc (.cells #[.int .i64 0, .int .i64 0] 24)) ((p4, 24, #[.int .i64 0, .int .i64 0]) :: L0)) := Lib.hid (HF1.out.alloc p4 hp _ _)
              clear HF1 hp
              refine kHeld hK.out (W := v1.alloc (.cells #[.int .i64 0, .int .i64 0] 24)) (Lib.hid HF4.out.tail) (fun hH2 => ?_)
              clear hK K hHeld
              have hHeld := hH2
              clear hH2
              generalize v1.alloc (.cells #[.int .i64 0, .int .i64 0] 24) = a4 at hHeld HF4 ⊢
              (try simp only [Act.put, List.getElem_toArray, List.getElem_cons_zero, List.getElem_cons_succ, List.setIfInBounds_toArray, List.set_cons_zero, List.set_cons_succ])
              refine wpAnyH_ready (rs := [3]) (by kernel_rfl) (by simp) ?_
              refine (AllReadyH.cons rfl (fun K hK => ?_) AllReadyH.nil)
              go_simp
              go_at_call 20
              refine (implNext_fix s sec2 ns2 h02 h12 first2 Y02 Hf2 HY02 yb02 r2 x2 b2 hr2 hx2 hok dl hn2 _).mono ?_
              rintro e v5 ⟨rfl, hb⟩
              have HF5 : Hid (Rws w v5 ((p4, 24, #[.int .i64 0, .int .i64 0]) :: L0)) := Lib.hid (HF4.out.below hb)
              clear hb HF4
              have HN : Hid (Rws w v5 L0) := Lib.hid HF5.out.tail
              refine hK.out _ _ HN (fun hH2 => ?_)
              clear hK K hHeld
              have hHeld := hH2
              clear hH2
              (try simp only [Act.put, List.getElem_toArray, List.getElem_cons_zero, List.getElem_cons_succ, List.setIfInBounds_toArray, List.set_cons_zero, List.set_cons_succ])
              refine wpAnyH_take (i := 4) (v := ?_) rfl (by kernel_rfl) (by kernel_rfl) (by kernel_rfl) (fun _ _ _ h => nomatch h.1) (Or.inl ⟨by rfl, ?_⟩) (by assumption) ?_
              rotate_left
              · (intro wx hSw; go_simp; (try with_reducible rfl))
              (try simp only [Act.put, List.getElem_toArray, List.getElem_cons_zero, List.getElem_cons_succ, List.setIfInBounds_toArray, List.set_cons_zero, List.set_cons_succ])
              refine wpAnyH_take (i := 5) (v := ?_) rfl (by kernel_rfl) (by kernel_rfl) (by kernel_rfl) (fun _ _ _ h => nomatch h.1) (Or.inl ⟨by rfl, ?_⟩) (by assumption) ?_
              rotate_left
              · (intro wx hSw; go_simp; (try with_reducible rfl))
              (try simp only [Act.put, List.getElem_toArray, List.getElem_cons_zero, List.getElem_cons_succ, List.setIfInBounds_toArray, List.set_cons_zero, List.set_cons_succ])
              refine wpAnyH_take (i := 6) (v := ?_) rfl (by kernel_rfl) (by kernel_rfl) (by kernel_rfl) (fun _ _ _ h => nomatch h.1) (Or.inl ⟨by rfl, ?_⟩) (by assumption) ?_
              rotate_left
              · (intro wx hSw; go_simp; (try with_reducible rfl))
              (try simp only [Act.put, List.getElem_toArray, List.getElem_cons_zero, List.getElem_cons_succ, List.setIfInBounds_toArray, List.set_cons_zero, List.set_cons_succ])
              refine wpAnyH_ready (rs := [8]) (by kernel_rfl) (by simp) ?_
              refine (AllReadyH.cons rfl (fun K hK => ?_) AllReadyH.nil)
              have c0 : v5.cell? ⟨p4, 0, none⟩ = some (.int .i64 0) := HF5.out.at0.cell 0
              have c1 : v5.cell? ⟨p4, 1, none⟩ = some (.int .i64 0) := HF5.out.at0.cell 1
              have f0 := HF5.out.at0.free 0
              have f1 := HF5.out.at0.free 1
              have HE : Hid (Rws w ((v5.setCell ⟨p4, 0, none⟩ (.int .i64 x2)).setCell ⟨p4, 1, none⟩ (.int .i64 0)) ((p4, 24, #[.int .i64 x2, .int .i64 0]) :: L0)) := Lib.hid (HF5.out.set2 HLp4.out.1 HLp4.out.2 _ _)
              have HN : Hid (Rws w ((v5.setCell ⟨p4, 0, none⟩ (.int .i64 x2)).setCell ⟨p4, 1, none⟩ (.int .i64 0)) L0) := Lib.hid HE.out.tail
              go_simp
              refine hK.out _ _ HN (fun hH2 => ?_)
              clear hK K hHeld
              have hHeld := hH2
              clear hH2
              (try simp only [Act.put, List.getElem_toArray, List.getElem_cons_zero, List.getElem_cons_succ, List.setIfInBounds_toArray, List.set_cons_zero, List.set_cons_succ])
              refine wpAnyH_take (i := 9) (v := ?_) rfl (by kernel_rfl) (by kernel_rfl) (by kernel_rfl) (fun _ _ _ h => nomatch h.1) (Or.inl ⟨by rfl, ?_⟩) (by assumption) ?_
              rotate_left
              · (intro wx hSw; go_simp; (try with_reducible rfl))
              (try simp only [Act.put, List.getElem_toArray, List.getElem_cons_zero, List.getElem_cons_succ, List.setIfInBounds_toArray, List.set_cons_zero, List.set_cons_succ])
              refine wpAnyH_done (by kernel_rfl) ?_ _
              exact ⟨rfl, p4, by (simp only [puts, Act.put, List.setIfInBounds_toArray, List.set_cons_zero, List.set_cons_succ]), HE.out⟩
          · go_simp
            obtain ⟨p6, hp⟩ : ∃ p6, p6 = Wd.heap.size := ⟨_, rfl⟩
            (try rw [← hp])
            have HLp6 : Hid ((∀ r ∈ L0, r.1 < p6) ∧ w.heap.size ≤ p6) := Lib.hid ⟨by rw [hp]; exact HFd.out.lt, by rw [hp]; exact HFd.out.2.size⟩
            have HF6 : Hid (Rws w (Wd.alloc (.cells #[.int .i64 0, .int .i64 0] 24)) ((p6, 24, #[.int .i64 0, .int .i64 0]) :: L0)) := Lib.hid (HFd.out.alloc p6 hp _ _)
            clear HFd hp
            refine kHeld hK.out (W := Wd.alloc (.cells #[.int .i64 0, .int .i64 0] 24)) (Lib.hid HF6.out.tail) (fun hH2 => ?_)
            clear hK K hHeld
            have hHeld := hH2
            clear hH2
            generalize Wd.alloc (.cells #[.int .i64 0, .int .i64 0] 24) = a6 at hHeld HF6 ⊢
            (try simp only [Act.put, List.getElem_toArray, List.getElem_cons_zero, List.getElem_cons_succ, List.setIfInBounds_toArray, List.set_cons_zero, List.set_cons_succ])
            refine wpAnyH_ready (rs := [2]) (by kernel_rfl) (by simp) ?_
            refine (AllReadyH.cons rfl (fun K hK => ?_) AllReadyH.nil)
            go_simp
            go_at_call 19
            refine (cronUTC_any _).mono ?_
            rintro e v7 ⟨rfl, hb⟩
            have HF7 : Hid (Rws w v7 ((p6, 24, #[.int .i64 0, .int .i64 0]) :: L0)) := Lib.hid (HF6.out.below hb)
            clear hb HF6
            have HN : Hid (Rws w v7 L0) := Lib.hid HF7.out.tail
            refine hK.out _ _ HN (fun hH2 => ?_)
            clear hK K hHeld
            have hHeld := hH2
            clear hH2
            (try simp only [Act.put, List.getElem_toArray, List.getElem_cons_zero, List.getElem_cons_succ, List.setIfInBounds_toArray, List.set_cons_zero, List.set_cons_succ])
            refine wpAnyH_ready (rs := [3]) (by kernel_rfl) (by simp) ?_
            refine (AllReadyH.cons rfl (fun K hK => ?_) AllReadyH.nil)
            go_simp
            go_at_call 20
            refine (implNext_fix s sec2 ns2 h02 h12 first2 Y02 Hf2 HY02 yb02 r2 x2 b2 hr2 hx2 hok dl hn2 _).mono ?_
            rintro e v8 ⟨rfl, hb⟩
            have HF8 : Hid (Rws w v8 ((p6, 24, #[.int .i64 0, .int .i64 0]) :: L0)) := Lib.hid (HF7.out.below hb)
            clear hb HF7
            have HN : Hid (Rws w v8 L0) := Lib.hid HF8.out.tail
            refine hK.out _ _ HN (fun hH2 => ?_)
            clear hK K hHeld
            have hHeld := hH2
            clear hH2
            (try simp only [Act.put, List.getElem_toArray, List.getElem_cons_zero, List.getElem_cons_succ, List.setIfInBounds_toArray, List.set_cons_zero, List.set_cons_succ])
            refine wpAnyH_take (i := 4) (v := ?_) rfl (by kernel_rfl) (by kernel_rfl) (by kernel_rfl) (fun _ _ _ h => nomatch h.1) (Or.inl ⟨by rfl, ?_⟩) (by assumption) ?_
            rotate_left
            · (intro wx hSw; go_simp; (try with_reducible rfl))
            (try simp only [Act.put, List.getElem_toArray, List.getElem_cons_zero, List.getElem_cons_succ, List.setIfInBounds_toArray, List.set_cons_zero, List.set_cons_succ])
            refine wpAnyH_take (i := 5) (v := ?_) rfl (by kernel_rfl) (by kernel_rfl) (by kernel_rfl) (fun _ _ _ h => nomatch h.1) (Or.inl ⟨by rfl, ?_⟩) (by assumption) ?_
            rotate_left
            · (intro wx hSw; go_simp; (try with_reducible rfl))
            (try simp only [Act.put, List.getElem_toArray, List.getElem_cons_zero, List.getElem_cons_succ, List.setIfInBounds_toArray, List.set_cons_zero, List.set_cons_succ])
            refine wpAnyH_take (i := 6) (v := ?_) rfl (by kernel_rfl) (by kernel_rfl) (by kernel_rfl) (fun _ _ _ h => nomatch h.1) (Or.inl ⟨by rfl, ?_⟩) (by assumption) ?_
            rotate_left
            · (intro wx hSw; go_simp; (try with_reducible rfl))
            (try simp only [Act.put, List.getElem_toArray, List.getElem_cons_zero, List.getElem_cons_succ, List.setIfInBounds_toArray, List.set_cons_zero, List.set_cons_succ])
            refine wpAnyH_ready (rs := [8]) (by kernel_rfl) (by simp) ?_
            refine (AllReadyH.cons rfl (fun K hK => ?_) AllReadyH.nil)
            have c0 : v8.cell? ⟨p6, 0, none⟩ = some (.int .i64 0) := HF8.out.at0.cell 0
            have c1 : v8.cell? ⟨p6, 1, none⟩ = some (.int .i64 0) := HF8.out.at0.cell 1
            have f0 := HF8.out.at0.free 0
            have f1 := HF8.out.at0.free 1
            have HE : Hid (Rws w ((v8.setCell ⟨p6, 0, none⟩ (.int .i64 x2)).setCell ⟨p6, 1, none⟩ (.int .i64 0)) ((p6, 24, #[.int .i64 x2, .int .i64 0]) :: L0)) := Lib.hid (HF8.out.set2 HLp6.out.1 HLp6.out.2 _ _)
            have HN : Hid (Rws w ((v8.setCell ⟨p6, 0, none⟩ (.int .i64 x2)).setCell ⟨p6, 1, none⟩ (.int .i64 0)) L0) := Lib.hid HE.out.tail
            go_simp
            refine hK.out _ _ HN (fun hH2 => ?_)
            clear hK K hHeld
            have hHeld := hH2
            clear hH2
            (try simp only [Act.put, List.getElem_toArray, List.getElem_cons_zero, List.getElem_cons_succ, List.setIfInBounds_toArray, List.set_cons_zero, List.set_cons_succ])
            refine wpAnyH_take (i := 9) (v := ?_) rfl (by kernel_rfl) (by kernel_rfl) (by kernel_rfl) (fun _ _ _ h => nomatch h.1) (Or.inl ⟨by rfl, ?_⟩) (by assumption) ?_
            rotate_left
            · (intro wx hSw; go_simp; (try with_reducible rfl))
            (try simp only [Act.put, List.getElem_toArray, List.getElem_cons_zero, List.getElem_cons_succ, List.setIfInBounds_toArray, List.set_cons_zero, List.set_cons_succ])
            refine wpAnyH_done (by kernel_rfl) ?_ _
            exact ⟨rfl, p6, by (simp only [puts, Act.put, List.setIfInBounds_toArray, List.set_cons_zero, List.set_cons_succ]), HE.out⟩
        case hq =>
          rintro p2 W2 hF
          rw [HL0.out] at hF
          (simp only [puts, Act.put, List.setIfInBounds_toArray, List.set_cons_zero, List.set_cons_succ])
          have HR2 := Lib.hid hF
          clear hF HL0 HR1 L0
          have y0 : W2.cell? ⟨p2, 0, none⟩ = some (.int .i64 x2) := HR2.out.at0.cell 0
          have y1 : W2.cell? ⟨p2, 1, none⟩ = some (.int .i64 0) := HR2.out.at0.cell 1
          have z0 : W2.cell? ⟨p1, 0, none⟩ = some (.int .i64 x) := HR2.out.at1.cell 0
          have z1 : W2.cell? ⟨p1, 1, none⟩ = some (.int .i64 0) := HR2.out.at1.cell 1
          have u0 : W2.cell? ⟨w.heap.size + 1 + 1, 0, none⟩ = some (.int .i64 sec2) := HR2.out.at2.cell 0
          have u1 : W2.cell? ⟨w.heap.size + 1 + 1, 1, none⟩ = some (.int .i64 ns2) := HR2.out.at2.cell 1
          go_wp2_with fail
          refine (before_any sec2 ns2 x 0 _).mono ?_
          rintro e w6 ⟨rfl, hb⟩
          have HR3 := Lib.hid (HR2.out.below hb)
          clear hb HR2 y0 y1 z0 z1 u0 u1
          have hB := Lib.hid HR3.out.2
          have y0 : w6.cell? ⟨p2, 0, none⟩ = some (.int .i64 x2) := HR3.out.at0.cell 0
          have y1 : w6.cell? ⟨p2, 1, none⟩ = some (.int .i64 0) := HR3.out.at0.cell 1
          have z0 : w6.cell? ⟨p1, 0, none⟩ = some (.int .i64 x) := HR3.out.at1.cell 0
          have z1 : w6.cell? ⟨p1, 1, none⟩ = some (.int .i64 0) := HR3.out.at1.cell 1
          have u0 : w6.cell? ⟨w.heap.size + 1 + 1, 0, none⟩ = some (.int .i64 sec2) := HR3.out.at2.cell 0
          have u1 : w6.cell? ⟨w.heap.size + 1 + 1, 1, none⟩ = some (.int .i64 ns2) := HR3.out.at2.cell 1
          by_cases hlt : sec2 < x
          · have e1 : r2 = r := hst.out hans.out.1 |>.1 (by have := Hf2.out; have := hans.out.2; omega)
            have e2 : x2 = x := by rw [← hx2.out.1, ← hx.out.1, e1]
            have e3 : b2 = true := by rw [← hx2.out.2, e1, hx.out.2]
            have e4 : beforeB sec2 ns2 x 0 = true := by unfold beforeB; simp [hlt]
            rw [e4]
            subst e2
            subst e3
            clear HR3 e1 hst hans hlt e4
            go_wp2_with fail
            go_ret
            exact ⟨rfl, hB.out⟩
          · have e4 : beforeB sec2 ns2 x 0 = false := by unfold beforeB; simp; omega
            rw [e4]
            cases b2 with
            | false =>
              clear HR3 hst hans hlt e4
              go_wp2_with fail
              go_ret
              exact ⟨rfl, hB.out⟩
            | true =>
              have hans2 := ans_true hx2.out rfl
              have e5 : beforeB x 0 x2 0 = true := by
                have := (hst.out hans.out.1).2 (by have := Hf2.out; have := hans.out.2; omega) hans2.1
                have q1 := hans.out.2
                have q2 := hans2.2
                unfold beforeB; simp; omega
              clear hst hans hlt e4 hans2
              go_wp2_with fail
              refine (before_any x 0 x2 0 _).mono ?_
              rintro e w7 ⟨rfl, hb⟩
              rw [e5]
              have hB2 := Lib.hid (HR3.out.below hb).2
              clear HR3 hb e5 y0 y1 z0 z1 u0 u1
              go_wp2_with fail
              go_ret
              exact ⟨rfl, hB2.out⟩
  · -- at once
    go_enter Try.func6, Try.ntmps6
    go_wp2_with fail
    refine (case_any s ev dl sec ns _).mono ?_
    rintro e w1 ⟨rfl, hb⟩
    rw [Hg1.out]
    have HR1 := Lib.hid (HR9.out.below hb)
    clear hb HR9
    cases g1 with
    | false =>
      go_wp2_with fail
      go_ret
      exact ⟨rfl, HR1.out.2⟩
    | true =>
      have u0 : w1.cell? ⟨w.heap.size + 1 + 1, 0, none⟩ = some (.int .i64 sec2) := HR1.out.at0.cell 0
      have u1 : w1.cell? ⟨w.heap.size + 1 + 1, 1, none⟩ = some (.int .i64 ns2) := HR1.out.at0.cell 1
      have t0 : w1.cell? ⟨w.heap.size + 1, 0, none⟩ = some (.int .i64 sec) := HR1.out.at1.cell 0
      have t1 : w1.cell? ⟨w.heap.size + 1, 1, none⟩ = some (.int .i64 ns) := HR1.out.at1.cell 1
      go_wp2_with fail
      refine (good_any sec2 ns2 _).mono ?_
      rintro e w2 ⟨rfl, hb⟩
      rw [Hg2.out]
      have HR2 := Lib.hid (HR1.out.below hb)
      clear hb HR1 u0 u1 t0 t1
      cases g2 with
      | false =>
        go_wp2_with fail
        go_ret
        exact ⟨rfl, HR2.out.2⟩
      | true =>
        have u0 : w2.cell? ⟨w.heap.size + 1 + 1, 0, none⟩ = some (.int .i64 sec2) := HR2.out.at0.cell 0
        have u1 : w2.cell? ⟨w.heap.size + 1 + 1, 1, none⟩ = some (.int .i64 ns2) := HR2.out.at0.cell 1
        have t0 : w2.cell? ⟨w.heap.size + 1, 0, none⟩ = some (.int .i64 sec) := HR2.out.at1.cell 0
        have t1 : w2.cell? ⟨w.heap.size + 1, 1, none⟩ = some (.int .i64 ns) := HR2.out.at1.cell 1
        go_wp2_with fail
        refine (before_any sec2 ns2 sec ns _).mono ?_
        rintro e w3 ⟨rfl, hb⟩
        have e3 : g3 = true := by cases g3 <;> simp_all
        rw [Hg3.out, e3]
        have hB := (HR2.out.below hb).2
        clear hb HR2 u0 u1 t0 t1 e3
        go_wp2_with fail
        go_ret
        exact ⟨rfl, hB⟩

end Go.Proofs.Ytpgclepiagfgfaa
