/- laws.FnCronNextLeastTimes. -/
import Derived.Test.YtpgclepiagfgfaaTsZB
namespace Go.Proofs.Ytpgclepiagfgfaa
open Go.RowKit
set_option linter.unusedVariables false
set_option linter.unusedSimpArgs false

/-- A region's steps under a name, its frame as a list of what has been put. -/
theorem dag_start {P : Program} {md : Region.Mode} {ops : Array Oper} {Q : Exit → Act → World → Prop} {S : World → Prop} {k : Nat} {done : Array Bool} {a : Act} {w : World}
    (h : ∀ (F : Nat → Array Bool → Act → World → Prop) (A : List (Tmp × Value) → Act), F = wpAnyH P md ops Q S → A = (fun l => puts a l) → F k done (A []) w) : wpAnyH P md ops Q S k done a w := h _ _ rfl rfl
theorem civ_days {F r : Int} (h : (yearOf ((F - 62135596800) / 86400) != yearOf ((r - 62135596800) / 86400)) = true ∨ (monthOf ((F - 62135596800) / 86400) != monthOf ((r - 62135596800) / 86400)) = true ∨ (dayOf ((F - 62135596800) / 86400) != dayOf ((r - 62135596800) / 86400)) = true) (hle : F ≤ r) : F / 86400 < r / 86400 := by
  apply Classical.byContradiction
  intro hc
  have e : (F - 62135596800) / 86400 = (r - 62135596800) / 86400 := by omega
  rw [e] at h
  simp at h
/-- What the law asks, plain: the numbers of the next time in their places. -/
theorem least_all {s : Sched} {F r : Int} (hr : fits s r = true) (hn : NoFit s F r) (hle : F ≤ r) {a0 a1 a2 a3 a4 a5 a6 a7 c0 c1 c2 c3 c4 c5 c6 c7 : Int}
    (ha : civV (F - 62135596800) 0 = #[.int .i64 a0, .int .i64 a1, .int .i64 a2, .int .i64 a3, .int .i64 a4, .int .i64 a5, .int .i64 a6, .int .i64 a7])
    (hc : civV (r - 62135596800) 0 = #[.int .i64 c0, .int .i64 c1, .int .i64 c2, .int .i64 c3, .int .i64 c4, .int .i64 c5, .int .i64 c6, .int .i64 c7]) :
    (((a0 != c0) = true ∨ (a1 != c1) = true ∨ (a2 != c2) = true) → LeastIs 0 23 s.ho c3) ∧
    (((a0 != c0) = true ∨ (a1 != c1) = true ∨ (a2 != c2) = true ∨ (a3 != c3) = true) → LeastIs 0 59 s.mi c4) ∧
    (((a0 != c0) = true ∨ (a1 != c1) = true ∨ (a2 != c2) = true ∨ (a3 != c3) = true ∨ (a4 != c4) = true) → LeastIs 0 59 s.se c5) := by
  unfold civV at ha hc
  simp only [Array.mk.injEq, List.cons.injEq, Value.int.injEq, true_and, and_true] at ha hc
  obtain ⟨e0, e1, e2, e3, e4, e5, -, -⟩ := ha
  obtain ⟨g0, g1, g2, g3, g4, g5, -, -⟩ := hc
  have hd : ((a0 != c0) = true ∨ (a1 != c1) = true ∨ (a2 != c2) = true) → F / 86400 < r / 86400 := fun h => civ_days (by rw [e0, e1, e2, g0, g1, g2]; exact h) hle
  have hh : ((a0 != c0) = true ∨ (a1 != c1) = true ∨ (a2 != c2) = true ∨ (a3 != c3) = true) → F / 3600 < r / 3600 := fun h => by
    rcases h with h | h | h | h
    · have := hd (.inl h); omega
    · have := hd (.inr (.inl h)); omega
    · have := hd (.inr (.inr h)); omega
    · have h' : a3 ≠ c3 := by simpa using h
      by_cases k : F / 3600 < r / 3600
      · exact k
      · exfalso
        have e : F / 3600 = r / 3600 := by omega
        exact h' (by rw [← e3, ← g3]; omega)
  have hm : ((a0 != c0) = true ∨ (a1 != c1) = true ∨ (a2 != c2) = true ∨ (a3 != c3) = true ∨ (a4 != c4) = true) → F / 60 < r / 60 := fun h => by
    rcases h with h | h | h | h | h
    · have := hh (.inl h); omega
    · have := hh (.inr (.inl h)); omega
    · have := hh (.inr (.inr (.inl h))); omega
    · have := hh (.inr (.inr (.inr h))); omega
    · have h' : a4 ≠ c4 := by simpa using h
      by_cases k : F / 60 < r / 60
      · exact k
      · exfalso
        have e : F / 60 = r / 60 := by omega
        exact h' (by rw [← e4, ← g4]; omega)
  refine ⟨fun h => ?_, fun h => ?_, fun h => ?_⟩
  · have := least_hour hr hn (hd h)
    rw [← g3, show (r - 62135596800) % 86400 / 3600 = r % 86400 / 3600 by omega]; exact this
  · have := least_minute hr hn (hh h)
    rw [← g4, show (r - 62135596800) % 3600 / 60 = r % 3600 / 60 by omega]; exact this
  · have := least_second hr hn (hm h)
    rw [← g5, show (r - 62135596800) % 60 = r % 60 by omega]; exact this

set_option maxRecDepth 100000 in
set_option maxHeartbeats 8000000 in
theorem least_law (s : Sched) (hok : Hid s.ok) (ev : Bool) (dl sec ns : Int) (w : World) :
    Calls Try.prog 5 #[.agg #[.bool ev, .int .i64 dl, .int .u64 s.se, .int .u64 s.mi, .int .u64 s.ho, .int .u64 s.dom, .int .u64 s.mo, .int .u64 s.dow], .agg #[.int .i64 sec, .int .i64 ns]] w fun e w' => e = .returned (.bool true) ∧ Below w.heap.size w w' := by
  obtain ⟨g1, Hg1⟩ : ∃ g1, Hid ((!ev && goodB sec ns) = g1) := ⟨_, rfl⟩
  have HR9 := Lib.hid (((rws0 w).alloc _ rfl #[.bool ev, .int .i64 dl, .int .u64 s.se, .int .u64 s.mi, .int .u64 s.ho, .int .u64 s.dom, .int .u64 s.mo, .int .u64 s.dow] 38).alloc (w.heap.size + 1) (by simp) #[.int .i64 sec, .int .i64 ns] 24)
  cases g1 with
  | false =>
    go_enter Try.func5, Try.ntmps5
    go_wp2_with fail
    refine (case_any s ev dl sec ns _).mono ?_
    rintro e w1 ⟨rfl, hb⟩
    rw [Hg1.out]
    have HR1 := Lib.hid (HR9.out.below hb)
    clear hb HR9
    go_wp2_with fail
    go_ret
    exact ⟨rfl, HR1.out.2⟩
  | true =>
    obtain ⟨rfl, h0, h1, hn0, hn1⟩ := good_parts Hg1.out
    obtain ⟨ns, rfl⟩ : ∃ n : Nat, ns = n := ⟨ns.toNat, by omega⟩
    have hn : ns < 1000000000 := by omega
    obtain ⟨first, Hf⟩ : ∃ first, Hid (first = sec + 62135596800 + 1) := ⟨_, rfl⟩
    obtain ⟨Y0, HY0⟩ : ∃ Y0, Hid (yearOf (dayN (sec + 62135596800 + 1)) = Y0) := ⟨_, rfl⟩
    have yb0 : 1 ≤ Y0 ∧ Y0 ≤ 10000 := by have := first_year sec h0 h1; have := HY0.out; omega
    obtain ⟨r, hr0⟩ := nextIs_exists s first (Y0 + 5)
    have hr := Lib.hid hr0
    obtain ⟨x, b, hx⟩ : ∃ x b, Hid (ansX r = x ∧ ansB r = b) := ⟨_, _, Lib.hid ⟨rfl, rfl⟩⟩
    clear hr0 hn0 hn1
    go_enter Try.func5, Try.ntmps5
    go_wp2_with fail
    refine (case_any s false dl sec ns _).mono ?_
    rintro e w1 ⟨rfl, hb⟩
    rw [Hg1.out]
    have HR1 := Lib.hid (HR9.out.below hb)
    clear hb HR9
    go_wp2_with fail
    obtain ⟨L0, HL0⟩ : ∃ L0 : List (Nat × TypeId × Array Value), Hid (L0 = [(w.heap.size + 1, 24, #[.int .i64 sec, .int .i64 ns]), (w.heap.size, 38, #[.bool false, .int .i64 dl, .int .u64 s.se, .int .u64 s.mi, .int .u64 s.ho, .int .u64 s.dom, .int .u64 s.mo, .int .u64 s.dow])]) := ⟨_, rfl⟩
    rw [← HL0.out] at HR1
    refine reg_framex (fun p => [(17, .agg #[.bool false, .int .i64 dl, .int .u64 s.se, .int .u64 s.mi, .int .u64 s.ho, .int .u64 s.dom, .int .u64 s.mo, .int .u64 s.dow]), (18, .agg #[.int .i64 sec, .int .i64 ns]), (19, .agg #[.slice none 0 0, .slice none 0 0, .slice none 0 0, .slice none 0 0]), (20, .tuple #[.agg #[.int .i64 x, .int .i64 0], .bool b]), (16, .tuple #[.agg #[.int .i64 x, .int .i64 0], .bool b]), (21, .agg #[.int .i64 x, .int .i64 0]), (22, .bool b), (5, .pointer (some ⟨p, 0, none⟩)), (6, .bool b)]) (fun p w' => Rws w w' ((p, 24, #[.int .i64 x, .int .i64 0]) :: L0)) ?reg ?hq
    case reg =>
      have HFd : Hid (Rws w w1.drew L0) := Lib.hid HR1.out.drew
      refine wp_region_held_drew (S := fun w' => Hid (Rws w w' L0)) (by kernel_rfl) HFd (fun hHeld => ?_)
      generalize w1.drew = Wd at HFd hHeld ⊢
      (try simp only [Act.put, List.getElem_toArray, List.getElem_cons_zero, List.getElem_cons_succ, List.setIfInBounds_toArray, List.set_cons_zero, List.set_cons_succ])
      refine wpAnyH_take (i := 0) (v := ?_) rfl (by kernel_rfl) (by kernel_rfl) (by kernel_rfl) (fun _ _ _ h => nomatch h.1) (Or.inl ⟨by rfl, ?_⟩) (by assumption) ?_
      rotate_left
      · (intro wx hSw; have hSx := hSw.out; rw [HL0.out] at hSx; have k0 : wx.cell? ⟨w.heap.size, 0, none⟩ = some (.bool false) := hSx.tail.at0.cell 0; have k1 : wx.cell? ⟨w.heap.size, 1, none⟩ = some (.int .i64 dl) := hSx.tail.at0.cell 1; have k2 : wx.cell? ⟨w.heap.size, 2, none⟩ = some (.int .u64 s.se) := hSx.tail.at0.cell 2; have k3 : wx.cell? ⟨w.heap.size, 3, none⟩ = some (.int .u64 s.mi) := hSx.tail.at0.cell 3; have k4 : wx.cell? ⟨w.heap.size, 4, none⟩ = some (.int .u64 s.ho) := hSx.tail.at0.cell 4; have k5 : wx.cell? ⟨w.heap.size, 5, none⟩ = some (.int .u64 s.dom) := hSx.tail.at0.cell 5; have k6 : wx.cell? ⟨w.heap.size, 6, none⟩ = some (.int .u64 s.mo) := hSx.tail.at0.cell 6; have k7 : wx.cell? ⟨w.heap.size, 7, none⟩ = some (.int .u64 s.dow) := hSx.tail.at0.cell 7; go_simp; (try with_reducible rfl))
      (try simp only [Act.put, List.getElem_toArray, List.getElem_cons_zero, List.getElem_cons_succ, List.setIfInBounds_toArray, List.set_cons_zero, List.set_cons_succ])
      refine wpAnyH_take (i := 1) (v := ?_) rfl (by kernel_rfl) (by kernel_rfl) (by kernel_rfl) (fun _ _ _ h => nomatch h.1) (Or.inl ⟨by rfl, ?_⟩) (by assumption) ?_
      rotate_left
      · (intro wx hSw; have hSx := hSw.out; rw [HL0.out] at hSx; have k0 : wx.cell? ⟨w.heap.size + 1, 0, none⟩ = some (.int .i64 sec) := hSx.at0.cell 0; have k1 : wx.cell? ⟨w.heap.size + 1, 1, none⟩ = some (.int .i64 ns) := hSx.at0.cell 1; go_simp; (try with_reducible rfl))
      (try simp only [Act.put, List.getElem_toArray, List.getElem_cons_zero, List.getElem_cons_succ, List.setIfInBounds_toArray, List.set_cons_zero, List.set_cons_succ])
      refine wpAnyH_ready (rs := [2, 7]) (by kernel_rfl) (by simp) ?_
      refine (AllReadyH.cons rfl (fun K hK => ?_) (AllReadyH.cons rfl (fun K hK => ?_) AllReadyH.nil))
      · go_simp
        go_at_call 19
        refine (cronUTC_any _).mono ?_
        rintro e v1 ⟨rfl, hb⟩
        have HF1 : Hid (Rws w v1 L0) := Lib.hid (HFd.out.below hb)
        clear hb HFd
        have HN : Hid (Rws w v1 L0) := Lib.hid HF1.out
        refine hK.out _ _ HN (fun hH2 => ?_)
        clear hK K hHeld
        have hHeld := hH2
        clear hH2
        (try simp only [Act.put, List.getElem_toArray, List.getElem_cons_zero, List.getElem_cons_succ, List.setIfInBounds_toArray, List.set_cons_zero, List.set_cons_succ])
        refine wpAnyH_ready (rs := [3, 7]) (by kernel_rfl) (by simp) ?_
        refine (AllReadyH.cons rfl (fun K hK => ?_) (AllReadyH.cons rfl (fun K hK => ?_) AllReadyH.nil))
        · go_simp
          go_at_call 20
          refine (implNext_fix s sec ns h0 h1 first Y0 Hf HY0 yb0 r x b hr hx hok dl hn _).mono ?_
          rintro e v2 ⟨rfl, hb⟩
          have HF2 : Hid (Rws w v2 L0) := Lib.hid (HF1.out.below hb)
          clear hb HF1
          have HN : Hid (Rws w v2 L0) := Lib.hid HF2.out
          refine hK.out _ _ HN (fun hH2 => ?_)
          clear hK K hHeld
          have hHeld := hH2
          clear hH2
          (try simp only [Act.put, List.getElem_toArray, List.getElem_cons_zero, List.getElem_cons_succ, List.setIfInBounds_toArray, List.set_cons_zero, List.set_cons_succ])
          refine wpAnyH_take (i := 4) (v := ?_) rfl (by kernel_rfl) (by kernel_rfl) (by kernel_rfl) (fun _ _ _ h => nomatch h.1) (Or.inl ⟨by rfl, ?_⟩) (by assumption) ?_
          rotate_left
          · (intro wx hSw; go_simp; (try with_reducible rfl))
          (try simp only [Act.put, List.getElem_toArray, List.getElem_cons_zero, List.getElem_cons_succ, List.setIfInBounds_toArray, List.set_cons_zero, List.set_cons_succ])
          refine wpAnyH_take (i := 5) (v := ?_) rfl (by kernel_rfl) (by kernel_rfl) (by kernel_rfl) (fun _ _ _ h => nomatch h.1) (Or.inl ⟨by rfl, ?_⟩) (by assumption) ?_
          rotate_left
          · (intro wx hSw; go_simp; (try with_reducible rfl))
          (try simp only [Act.put, List.getElem_toArray, List.getElem_cons_zero, List.getElem_cons_succ, List.setIfInBounds_toArray, List.set_cons_zero, List.set_cons_succ])
          refine wpAnyH_take (i := 6) (v := ?_) rfl (by kernel_rfl) (by kernel_rfl) (by kernel_rfl) (fun _ _ _ h => nomatch h.1) (Or.inl ⟨by rfl, ?_⟩) (by assumption) ?_
          rotate_left
          · (intro wx hSw; go_simp; (try with_reducible rfl))
          (try simp only [Act.put, List.getElem_toArray, List.getElem_cons_zero, List.getElem_cons_succ, List.setIfInBounds_toArray, List.set_cons_zero, List.set_cons_succ])
          refine wpAnyH_ready (rs := [7]) (by kernel_rfl) (by simp) ?_
          refine (AllReadyH.cons rfl (fun K hK => ?_) AllReadyH.nil)
          go_simp
          obtain ⟨p3, hp⟩ : ∃ p3, p3 = v2.heap.size := ⟨_, rfl⟩
          (try rw [← hp])
          have HLp3 : Hid ((∀ r ∈ L0, r.1 < p3) ∧ w.heap.size ≤ p3) := Lib.hid ⟨by rw [hp]; exact HF2.out.lt, by rw [hp]; exact HF2.out.2.size⟩
          have HF3 : Hid (Rws w (v2.alloc (.cells #[.int .i64 0, .int .i64 0] 24)) ((p3, 24, #[.int .i64 0, .int .i64 0]) :: L0)) := Lib.hid (HF2.out.alloc p3 hp _ _)
          clear HF2 hp
          refine kHeld hK.out (W := v2.alloc (.cells #[.int .i64 0, .int .i64 0] 24)) (Lib.hid HF3.out.tail) (fun hH2 => ?_)
          clear hK K hHeld
          have hHeld := hH2
          clear hH2
          generalize v2.alloc (.cells #[.int .i64 0, .int .i64 0] 24) = a3 at hHeld HF3 ⊢
          (try simp only [Act.put, List.getElem_toArray, List.getElem_cons_zero, List.getElem_cons_succ, List.setIfInBounds_toArray, List.set_cons_zero, List.set_cons_succ])
          refine wpAnyH_ready (rs := [8]) (by kernel_rfl) (by simp) ?_
          refine (AllReadyH.cons rfl (fun K hK => ?_) AllReadyH.nil)
          have c0 : a3.cell? ⟨p3, 0, none⟩ = some (.int .i64 0) := HF3.out.at0.cell 0
          have c1 : a3.cell? ⟨p3, 1, none⟩ = some (.int .i64 0) := HF3.out.at0.cell 1
          have f0 := HF3.out.at0.free 0
          have f1 := HF3.out.at0.free 1
          have HE : Hid (Rws w ((a3.setCell ⟨p3, 0, none⟩ (.int .i64 x)).setCell ⟨p3, 1, none⟩ (.int .i64 0)) ((p3, 24, #[.int .i64 x, .int .i64 0]) :: L0)) := Lib.hid (HF3.out.set2 HLp3.out.1 HLp3.out.2 _ _)
          have HN : Hid (Rws w ((a3.setCell ⟨p3, 0, none⟩ (.int .i64 x)).setCell ⟨p3, 1, none⟩ (.int .i64 0)) L0) := Lib.hid HE.out.tail
          go_simp
          refine hK.out _ _ HN (fun hH2 => ?_)
          clear hK K hHeld
          have hHeld := hH2
          clear hH2
          (try simp only [Act.put, List.getElem_toArray, List.getElem_cons_zero, List.getElem_cons_succ, List.setIfInBounds_toArray, List.set_cons_zero, List.set_cons_succ])
          refine wpAnyH_take (i := 9) (v := ?_) rfl (by kernel_rfl) (by kernel_rfl) (by kernel_rfl) (fun _ _ _ h => nomatch h.1) (Or.inl ⟨by rfl, ?_⟩) (by assumption) ?_
          rotate_left
          · (intro wx hSw; go_simp; (try with_reducible rfl))
          (try simp only [Act.put, List.getElem_toArray, List.getElem_cons_zero, List.getElem_cons_succ, List.setIfInBounds_toArray, List.set_cons_zero, List.set_cons_succ])
          refine wpAnyH_done (by kernel_rfl) ?_ _
          exact ⟨rfl, p3, by (simp only [puts, Act.put, List.setIfInBounds_toArray, List.set_cons_zero, List.set_cons_succ]), HE.out⟩
        · go_simp
          obtain ⟨p4, hp⟩ : ∃ p4, p4 = v1.heap.size := ⟨_, rfl⟩
          (try rw [← hp])
          have HLp4 : Hid ((∀ r ∈ L0, r.1 < p4) ∧ w.heap.size ≤ p4) := Lib.hid ⟨by rw [hp]; exact HF1.out.lt, by rw [hp]; exact HF1.out.2.size⟩
          have HF4 : Hid (Rws w (v1.alloc (.cells #[.int .i64 0, .int .i64 0] 24)) ((p4, 24, #[.int .i64 0, .int .i64 0]) :: L0)) := Lib.hid (HF1.out.alloc p4 hp _ _)
          clear HF1 hp
          refine kHeld hK.out (W := v1.alloc (.cells #[.int .i64 0, .int .i64 0] 24)) (Lib.hid HF4.out.tail) (fun hH2 => ?_)
          clear hK K hHeld
          have hHeld := hH2
          clear hH2
          generalize v1.alloc (.cells #[.int .i64 0, .int .i64 0] 24) = a4 at hHeld HF4 ⊢
          (try simp only [Act.put, List.getElem_toArray, List.getElem_cons_zero, List.getElem_cons_succ, List.setIfInBounds_toArray, List.set_cons_zero, List.set_cons_succ])
          refine wpAnyH_ready (rs := [3]) (by kernel_rfl) (by simp) ?_
          refine (AllReadyH.cons rfl (fun K hK => ?_) AllReadyH.nil)
          go_simp
          go_at_call 20
          refine (implNext_fix s sec ns h0 h1 first Y0 Hf HY0 yb0 r x b hr hx hok dl hn _).mono ?_
          rintro e v5 ⟨rfl, hb⟩
          have HF5 : Hid (Rws w v5 ((p4, 24, #[.int .i64 0, .int .i64 0]) :: L0)) := Lib.hid (HF4.out.below hb)
          clear hb HF4
          have HN : Hid (Rws w v5 L0) := Lib.hid HF5.out.tail
          refine hK.out _ _ HN (fun hH2 => ?_)
          clear hK K hHeld
          have hHeld := hH2
          clear hH2
          (try simp only [Act.put, List.getElem_toArray, List.getElem_cons_zero, List.getElem_cons_succ, List.setIfInBounds_toArray, List.set_cons_zero, List.set_cons_succ])
          refine wpAnyH_take (i := 4) (v := ?_) rfl (by kernel_rfl) (by kernel_rfl) (by kernel_rfl) (fun _ _ _ h => nomatch h.1) (Or.inl ⟨by rfl, ?_⟩) (by assumption) ?_
          rotate_left
          · (intro wx hSw; go_simp; (try with_reducible rfl))
          (try simp only [Act.put, List.getElem_toArray, List.getElem_cons_zero, List.getElem_cons_succ, List.setIfInBounds_toArray, List.set_cons_zero, List.set_cons_succ])
          refine wpAnyH_take (i := 5) (v := ?_) rfl (by kernel_rfl) (by kernel_rfl) (by kernel_rfl) (fun _ _ _ h => nomatch h.1) (Or.inl ⟨by rfl, ?_⟩) (by assumption) ?_
          rotate_left
          · (intro wx hSw; go_simp; (try with_reducible rfl))
          (try simp only [Act.put, List.getElem_toArray, List.getElem_cons_zero, List.getElem_cons_succ, List.setIfInBounds_toArray, List.set_cons_zero, List.set_cons_succ])
          refine wpAnyH_take (i := 6) (v := ?_) rfl (by kernel_rfl) (by kernel_rfl) (by kernel_rfl) (fun _ _ _ h => nomatch h.1) (Or.inl ⟨by rfl, ?_⟩) (by assumption) ?_
          rotate_left
          · (intro wx hSw; go_simp; (try with_reducible rfl))
          (try simp only [Act.put, List.getElem_toArray, List.getElem_cons_zero, List.getElem_cons_succ, List.setIfInBounds_toArray, List.set_cons_zero, List.set_cons_succ])
          refine wpAnyH_ready (rs := [8]) (by kernel_rfl) (by simp) ?_
          refine (AllReadyH.cons rfl (fun K hK => ?_) AllReadyH.nil)
          have c0 : v5.cell? ⟨p4, 0, none⟩ = some (.int .i64 0) := HF5.out.at0.cell 0
          have c1 : v5.cell? ⟨p4, 1, none⟩ = some (.int .i64 0) := HF5.out.at0.cell 1
          have f0 := HF5.out.at0.free 0
          have f1 := HF5.out.at0.free 1
          have HE : Hid (Rws w ((v5.setCell ⟨p4, 0, none⟩ (.int .i64 x)).setCell ⟨p4, 1, none⟩ (.int .i64 0)) ((p4, 24, #[.int .i64 x, .int .i64 0]) :: L0)) := Lib.hid (HF5.out.set2 HLp4.out.1 HLp4.out.2 _ _)
          have HN : Hid (Rws w ((v5.setCell ⟨p4, 0, none⟩ (.int .i64 x)).setCell ⟨p4, 1, none⟩ (.int .i64 0)) L0) := Lib.hid HE.out.tail
          go_simp
          refine hK.out _ _ HN (fun hH2 => ?_)
          clear hK K hHeld
          have hHeld := hH2
          clear hH2
          (try simp only [Act.put, List.getElem_toArray, List.getElem_cons_zero, List.getElem_cons_succ, List.setIfInBounds_toArray, List.set_cons_zero, List.set_cons_succ])
          refine wpAnyH_take (i := 9) (v := ?_) rfl (by kernel_rfl) (by kernel_rfl) (by kernel_rfl) (fun _ _ _ h => nomatch h.1) (Or.inl ⟨by rfl, ?_⟩) (by assumption) ?_
          rotate_left
          · (intro wx hSw; go_simp; (try with_reducible rfl))
          (try simp only [Act.put, List.getElem_toArray, List.getElem_cons_zero, List.getElem_cons_succ, List.setIfInBounds_toArray, List.set_cons_zero, List.set_cons_succ])
          refine wpAnyH_done (by kernel_rfl) ?_ _
          exact ⟨rfl, p4, by (simp only [puts, Act.put, List.setIfInBounds_toArray, List.set_cons_zero, List.set_cons_succ]), HE.out⟩
      · go_simp
        obtain ⟨p6, hp⟩ : ∃ p6, p6 = Wd.heap.size := ⟨_, rfl⟩
        (try rw [← hp])
        have HLp6 : Hid ((∀ r ∈ L0, r.1 < p6) ∧ w.heap.size ≤ p6) := Lib.hid ⟨by rw [hp]; exact HFd.out.lt, by rw [hp]; exact HFd.out.2.size⟩
        have HF6 : Hid (Rws w (Wd.alloc (.cells #[.int .i64 0, .int .i64 0] 24)) ((p6, 24, #[.int .i64 0, .int .i64 0]) :: L0)) := Lib.hid (HFd.out.alloc p6 hp _ _)
        clear HFd hp
        refine kHeld hK.out (W := Wd.alloc (.cells #[.int .i64 0, .int .i64 0] 24)) (Lib.hid HF6.out.tail) (fun hH2 => ?_)
        clear hK K hHeld
        have hHeld := hH2
        clear hH2
        generalize Wd.alloc (.cells #[.int .i64 0, .int .i64 0] 24) = a6 at hHeld HF6 ⊢
        (try simp only [Act.put, List.getElem_toArray, List.getElem_cons_zero, List.getElem_cons_succ, List.setIfInBounds_toArray, List.set_cons_zero, List.set_cons_succ])
        refine wpAnyH_ready (rs := [2]) (by kernel_rfl) (by simp) ?_
        refine (AllReadyH.cons rfl (fun K hK => ?_) AllReadyH.nil)
        go_simp
        go_at_call 19
        refine (cronUTC_any _).mono ?_
        rintro e v7 ⟨rfl, hb⟩
        have HF7 : Hid (Rws w v7 ((p6, 24, #[.int .i64 0, .int .i64 0]) :: L0)) := Lib.hid (HF6.out.below hb)
        clear hb HF6
        have HN : Hid (Rws w v7 L0) := Lib.hid HF7.out.tail
        refine hK.out _ _ HN (fun hH2 => ?_)
        clear hK K hHeld
        have hHeld := hH2
        clear hH2
        (try simp only [Act.put, List.getElem_toArray, List.getElem_cons_zero, List.getElem_cons_succ, List.setIfInBounds_toArray, List.set_cons_zero, List.set_cons_succ])
        refine wpAnyH_ready (rs := [3]) (by kernel_rfl) (by simp) ?_
        refine (AllReadyH.cons rfl (fun K hK => ?_) AllReadyH.nil)
        go_simp
        go_at_call 20
        refine (implNext_fix s sec ns h0 h1 first Y0 Hf HY0 yb0 r x b hr hx hok dl hn _).mono ?_
        rintro e v8 ⟨rfl, hb⟩
        have HF8 : Hid (Rws w v8 ((p6, 24, #[.int .i64 0, .int .i64 0]) :: L0)) := Lib.hid (HF7.out.below hb)
        clear hb HF7
        have HN : Hid (Rws w v8 L0) := Lib.hid HF8.out.tail
        refine hK.out _ _ HN (fun hH2 => ?_)
        clear hK K hHeld
        have hHeld := hH2
        clear hH2
        (try simp only [Act.put, List.getElem_toArray, List.getElem_cons_zero, List.getElem_cons_succ, List.setIfInBounds_toArray, List.set_cons_zero, List.set_cons_succ])
        refine wpAnyH_take (i := 4) (v := ?_) rfl (by kernel_rfl) (by kernel_rfl) (by kernel_rfl) (fun _ _ _ h => nomatch h.1) (Or.inl ⟨by rfl, ?_⟩) (by assumption) ?_
        rotate_left
        · (intro wx hSw; go_simp; (try with_reducible rfl))
        (try simp only [Act.put, List.getElem_toArray, List.getElem_cons_zero, List.getElem_cons_succ, List.setIfInBounds_toArray, List.set_cons_zero, List.set_cons_succ])
        refine wpAnyH_take (i := 5) (v := ?_) rfl (by kernel_rfl) (by kernel_rfl) (by kernel_rfl) (fun _ _ _ h => nomatch h.1) (Or.inl ⟨by rfl, ?_⟩) (by assumption) ?_
        rotate_left
        · (intro wx hSw; go_simp; (try with_reducible rfl))
        (try simp only [Act.put, List.getElem_toArray, List.getElem_cons_zero, List.getElem_cons_succ, List.setIfInBounds_toArray, List.set_cons_zero, List.set_cons_succ])
        refine wpAnyH_take (i := 6) (v := ?_) rfl (by kernel_rfl) (by kernel_rfl) (by kernel_rfl) (fun _ _ _ h => nomatch h.1) (Or.inl ⟨by rfl, ?_⟩) (by assumption) ?_
        rotate_left
        · (intro wx hSw; go_simp; (try with_reducible rfl))
        (try simp only [Act.put, List.getElem_toArray, List.getElem_cons_zero, List.getElem_cons_succ, List.setIfInBounds_toArray, List.set_cons_zero, List.set_cons_succ])
        refine wpAnyH_ready (rs := [8]) (by kernel_rfl) (by simp) ?_
        refine (AllReadyH.cons rfl (fun K hK => ?_) AllReadyH.nil)
        have c0 : v8.cell? ⟨p6, 0, none⟩ = some (.int .i64 0) := HF8.out.at0.cell 0
        have c1 : v8.cell? ⟨p6, 1, none⟩ = some (.int .i64 0) := HF8.out.at0.cell 1
        have f0 := HF8.out.at0.free 0
        have f1 := HF8.out.at0.free 1
        have HE : Hid (Rws w ((v8.setCell ⟨p6, 0, none⟩ (.int .i64 x)).setCell ⟨p6, 1, none⟩ (.int .i64 0)) ((p6, 24, #[.int .i64 x, .int .i64 0]) :: L0)) := Lib.hid (HF8.out.set2 HLp6.out.1 HLp6.out.2 _ _)
        have HN : Hid (Rws w ((v8.setCell ⟨p6, 0, none⟩ (.int .i64 x)).setCell ⟨p6, 1, none⟩ (.int .i64 0)) L0) := Lib.hid HE.out.tail
        go_simp
        refine hK.out _ _ HN (fun hH2 => ?_)
        clear hK K hHeld
        have hHeld := hH2
        clear hH2
        (try simp only [Act.put, List.getElem_toArray, List.getElem_cons_zero, List.getElem_cons_succ, List.setIfInBounds_toArray, List.set_cons_zero, List.set_cons_succ])
        refine wpAnyH_take (i := 9) (v := ?_) rfl (by kernel_rfl) (by kernel_rfl) (by kernel_rfl) (fun _ _ _ h => nomatch h.1) (Or.inl ⟨by rfl, ?_⟩) (by assumption) ?_
        rotate_left
        · (intro wx hSw; go_simp; (try with_reducible rfl))
        (try simp only [Act.put, List.getElem_toArray, List.getElem_cons_zero, List.getElem_cons_succ, List.setIfInBounds_toArray, List.set_cons_zero, List.set_cons_succ])
        refine wpAnyH_done (by kernel_rfl) ?_ _
        exact ⟨rfl, p6, by (simp only [puts, Act.put, List.setIfInBounds_toArray, List.set_cons_zero, List.set_cons_succ]), HE.out⟩
    case hq =>
      rintro p1 W1 hF
      rw [HL0.out] at hF
      (simp only [puts, Act.put, List.setIfInBounds_toArray, List.set_cons_zero, List.set_cons_succ])
      have HR2 := Lib.hid hF
      clear hF HL0 HR1 L0
      cases b with
      | false =>
        go_wp2_with fail
        obtain ⟨L0, HL0⟩ : ∃ L0 : List (Nat × TypeId × Array Value), Hid (L0 = [(p1, 24, #[.int .i64 x, .int .i64 0]), (w.heap.size + 1, 24, #[.int .i64 sec, .int .i64 ns]), (w.heap.size, 38, #[.bool false, .int .i64 dl, .int .u64 s.se, .int .u64 s.mi, .int .u64 s.ho, .int .u64 s.dom, .int .u64 s.mo, .int .u64 s.dow])]) := ⟨_, rfl⟩
        rw [← HL0.out] at HR2
        have HFd : Hid (Rws w W1.drew L0) := Lib.hid HR2.out.drew
        refine wp_region_held_drew (S := fun w' => Hid (Rws w w' L0)) (by kernel_rfl) HFd (fun hHeld => ?_)
        clear HFd
        generalize W1.drew = Wd at hHeld ⊢
        (try simp only [Act.put, List.getElem_toArray, List.getElem_cons_zero, List.getElem_cons_succ, List.setIfInBounds_toArray, List.set_cons_zero, List.set_cons_succ])
        refine wpAnyH_take (i := 0) (v := ?_) rfl (by kernel_rfl) (by kernel_rfl) (by kernel_rfl) (fun _ _ _ h => h) (Or.inl ⟨by rfl, ?_⟩) (by assumption) ?_
        rotate_left
        · (intro wx hSw; have hSx := hSw.out; rw [HL0.out] at hSx; have k0 : wx.cell? ⟨w.heap.size, 0, none⟩ = some (.bool false) := hSx.at2.cell 0; have k1 : wx.cell? ⟨w.heap.size, 1, none⟩ = some (.int .i64 dl) := hSx.at2.cell 1; have k2 : wx.cell? ⟨w.heap.size, 2, none⟩ = some (.int .u64 s.se) := hSx.at2.cell 2; have k3 : wx.cell? ⟨w.heap.size, 3, none⟩ = some (.int .u64 s.mi) := hSx.at2.cell 3; have k4 : wx.cell? ⟨w.heap.size, 4, none⟩ = some (.int .u64 s.ho) := hSx.at2.cell 4; have k5 : wx.cell? ⟨w.heap.size, 5, none⟩ = some (.int .u64 s.dom) := hSx.at2.cell 5; have k6 : wx.cell? ⟨w.heap.size, 6, none⟩ = some (.int .u64 s.mo) := hSx.at2.cell 6; have k7 : wx.cell? ⟨w.heap.size, 7, none⟩ = some (.int .u64 s.dow) := hSx.at2.cell 7; go_simp; (try with_reducible rfl))
        (try simp only [Act.put, List.getElem_toArray, List.getElem_cons_zero, List.getElem_cons_succ, List.setIfInBounds_toArray, List.set_cons_zero, List.set_cons_succ])
        refine wpAnyH_take (i := 1) (v := ?_) rfl (by kernel_rfl) (by kernel_rfl) (by kernel_rfl) (fun _ _ _ h => h) (Or.inl ⟨by rfl, ?_⟩) (by assumption) ?_
        rotate_left
        · (intro wx hSw; have hSx := hSw.out; rw [HL0.out] at hSx; have k0 : wx.cell? ⟨w.heap.size + 1, 0, none⟩ = some (.int .i64 sec) := hSx.at1.cell 0; have k1 : wx.cell? ⟨w.heap.size + 1, 1, none⟩ = some (.int .i64 ns) := hSx.at1.cell 1; go_simp; (try with_reducible rfl))
        (try simp only [Act.put, List.getElem_toArray, List.getElem_cons_zero, List.getElem_cons_succ, List.setIfInBounds_toArray, List.set_cons_zero, List.set_cons_succ])
        refine wpAnyH_ready (rs := [2]) (by kernel_rfl) (by simp) ?_
        refine (AllReadyH.cons rfl (fun K hK => ?_) AllReadyH.nil)
        go_simp
        go_at_call 19
        refine (cronUTC_any _).mono ?_
        rintro e vq0 ⟨rfl, hb⟩
        have HN : Hid (Rws w vq0 L0) := Lib.hid (hHeld.out.below hb)
        clear hb
        refine hK.out _ _ HN (fun hH2 => ?_)
        clear hK K hHeld 
        have hHeld := hH2
        clear hH2
        (try simp only [Act.put, List.getElem_toArray, List.getElem_cons_zero, List.getElem_cons_succ, List.setIfInBounds_toArray, List.set_cons_zero, List.set_cons_succ])
        refine wpAnyH_ready (rs := [3]) (by kernel_rfl) (by simp) ?_
        refine (AllReadyH.cons rfl (fun K hK => ?_) AllReadyH.nil)
        go_simp
        go_at_call 21
        refine (none_any s sec ns h0 h1 first Y0 Hf HY0 yb0 r x false hr hx hok dl _).mono ?_
        rintro e vq1 ⟨rfl, hb⟩
        have HN : Hid (Rws w vq1 L0) := Lib.hid (hHeld.out.below hb)
        clear hb
        refine hK.out _ _ HN (fun hH2 => ?_)
        clear hK K hHeld 
        have hHeld := hH2
        clear hH2
        (try simp only [Act.put, List.getElem_toArray, List.getElem_cons_zero, List.getElem_cons_succ, List.setIfInBounds_toArray, List.set_cons_zero, List.set_cons_succ])
        refine wpAnyH_take (i := 4) (v := ?_) rfl (by kernel_rfl) (by kernel_rfl) (by kernel_rfl) (fun _ _ _ h => h) (Or.inl ⟨by rfl, ?_⟩) (by assumption) ?_
        rotate_left
        · (intro wx hSw; go_simp; (try with_reducible rfl))
        (try simp only [Act.put, List.getElem_toArray, List.getElem_cons_zero, List.getElem_cons_succ, List.setIfInBounds_toArray, List.set_cons_zero, List.set_cons_succ])
        refine wpAnyH_done (by kernel_rfl) ?_ _
        go_wp2_with fail
        go_ret
        exact ⟨rfl, hHeld.out.2⟩
      | true =>
        have hans := Lib.hid (ans_true hx.out rfl)
        obtain ⟨u, Hu⟩ : ∃ u, Hid (sec + 1 = u) := ⟨_, rfl⟩
        obtain ⟨hfr, hfits, hyr, hnof⟩ := hr.out.from hans.out.1
        have hday := year_lim hyr (by omega)
        have hxb : sec < x ∧ x ≤ 260000000000 := by have := Hf.out; have := hans.out.2; unfold dayN at hday; omega
        obtain ⟨a0, a1, a2, a3, a4, a5, a6, a7, HCa⟩ : ∃ a0 a1 a2 a3 a4 a5 a6 a7, Hid (civV u 0 = #[.int .i64 a0, .int .i64 a1, .int .i64 a2, .int .i64 a3, .int .i64 a4, .int .i64 a5, .int .i64 a6, .int .i64 a7]) := ⟨_, _, _, _, _, _, _, _, Lib.hid rfl⟩
        obtain ⟨c0, c1, c2, c3, c4, c5, c6, c7, HCc⟩ : ∃ c0 c1 c2 c3 c4 c5 c6 c7, Hid (civV x 0 = #[.int .i64 c0, .int .i64 c1, .int .i64 c2, .int .i64 c3, .int .i64 c4, .int .i64 c5, .int .i64 c6, .int .i64 c7]) := ⟨_, _, _, _, _, _, _, _, Lib.hid rfl⟩
        have hub : -62135596800 ≤ u ∧ u ≤ 260000000000 := by have := Hu.out; omega
        have HCA : Hid (∀ W, Calls Try.prog 15 #[.agg #[.int .i64 u, .int .i64 0], .agg #[.slice none 0 0, .slice none 0 0, .slice none 0 0, .slice none 0 0]] W fun e w' => e = .returned (.agg #[.int .i64 a0, .int .i64 a1, .int .i64 a2, .int .i64 a3, .int .i64 a4, .int .i64 a5, .int .i64 a6, .int .i64 a7]) ∧ Below W.heap.size W w') := Lib.hid (fun W => by rw [← HCa.out]; exact cronCivil_any u 0 hub.1 hub.2 W)
        have HCB : Hid (∀ W, Calls Try.prog 15 #[.agg #[.int .i64 x, .int .i64 0], .agg #[.slice none 0 0, .slice none 0 0, .slice none 0 0, .slice none 0 0]] W fun e w' => e = .returned (.agg #[.int .i64 c0, .int .i64 c1, .int .i64 c2, .int .i64 c3, .int .i64 c4, .int .i64 c5, .int .i64 c6, .int .i64 c7]) ∧ Below W.heap.size W w') := Lib.hid (fun W => by rw [← HCc.out]; exact cronCivil_any x 0 (by omega) hxb.2 W)
        have hLs := Lib.hid (least_all hfits hnof hfr (by rw [show first - 62135596800 = u by have := Hf.out; have := Hu.out; omega]; exact HCa.out) (by rw [show r - 62135596800 = x by have := hans.out.2; omega]; exact HCc.out))
        clear HCa HCc hday hfits hnof hyr hfr
        go_wp2_with fail
        obtain ⟨L0, HL0⟩ : ∃ L0 : List (Nat × TypeId × Array Value), Hid (L0 = [(p1, 24, #[.int .i64 x, .int .i64 0]), (w.heap.size + 1, 24, #[.int .i64 sec, .int .i64 ns]), (w.heap.size, 38, #[.bool false, .int .i64 dl, .int .u64 s.se, .int .u64 s.mi, .int .u64 s.ho, .int .u64 s.dom, .int .u64 s.mo, .int .u64 s.dow])]) := ⟨_, rfl⟩
        rw [← HL0.out] at HR2
        refine reg_framex (fun p : Nat × Nat => [(29, .pointer (some ⟨w.heap.size + 1, 0, none⟩)), (30, .int .i64 sec), (31, .int .i64 u), (35, .agg #[.int .i64 x, .int .i64 0]), (32, .agg #[.int .i64 u, .int .i64 0]), (33, .agg #[.slice none 0 0, .slice none 0 0, .slice none 0 0, .slice none 0 0]), (34, .agg #[.int .i64 a0, .int .i64 a1, .int .i64 a2, .int .i64 a3, .int .i64 a4, .int .i64 a5, .int .i64 a6, .int .i64 a7]), (36, .agg #[.slice none 0 0, .slice none 0 0, .slice none 0 0, .slice none 0 0]), (37, .agg #[.int .i64 c0, .int .i64 c1, .int .i64 c2, .int .i64 c3, .int .i64 c4, .int .i64 c5, .int .i64 c6, .int .i64 c7]), (7, .pointer (some ⟨p.1, 0, none⟩)), (8, .pointer (some ⟨p.2, 0, none⟩))]) (fun p w' => Rws w w' ((p.2, 35, #[.int .i64 c0, .int .i64 c1, .int .i64 c2, .int .i64 c3, .int .i64 c4, .int .i64 c5, .int .i64 c6, .int .i64 c7]) :: (p.1, 35, #[.int .i64 a0, .int .i64 a1, .int .i64 a2, .int .i64 a3, .int .i64 a4, .int .i64 a5, .int .i64 a6, .int .i64 a7]) :: L0)) ?reg ?hq
        case reg =>
          have HFd : Hid (Rws w W1.drew L0) := Lib.hid HR2.out.drew
          refine wp_region_held_drew (S := fun w' => Hid (Rws w w' L0)) (by kernel_rfl) HFd (fun hHeld => ?_)
          generalize W1.drew = Wd at HFd hHeld ⊢
          clear HR2
          refine dag_start ?_
          intro F A hF hA
          have st5ab : ∀ (W : World) (pa : Nat) (pb : Nat), Hid (Rws w W ((pa, 35, #[.int .i64 0, .int .i64 0, .int .i64 0, .int .i64 0, .int .i64 0, .int .i64 0, .int .i64 0, .int .i64 0]) :: ((pb, 35, #[.int .i64 0, .int .i64 0, .int .i64 0, .int .i64 0, .int .i64 0, .int .i64 0, .int .i64 0, .int .i64 0]) :: L0))) → Hid ((∀ r ∈ L0, r.1 ≠ pa) ∧ w.heap.size ≤ pa ∧ (∀ r ∈ L0, r.1 ≠ pb) ∧ w.heap.size ≤ pb ∧ pa ≠ pb) → F 2 #[true, true, true, true, true, true, true, true, true, true, true, false, false] (A [(29, .pointer (some ⟨w.heap.size + 1, 0, none⟩)), (30, .int .i64 sec), (31, .int .i64 u), (35, .agg #[.int .i64 x, .int .i64 0]), (32, .agg #[.int .i64 u, .int .i64 0]), (33, .agg #[.slice none 0 0, .slice none 0 0, .slice none 0 0, .slice none 0 0]), (34, .agg #[.int .i64 a0, .int .i64 a1, .int .i64 a2, .int .i64 a3, .int .i64 a4, .int .i64 a5, .int .i64 a6, .int .i64 a7]), (36, .agg #[.slice none 0 0, .slice none 0 0, .slice none 0 0, .slice none 0 0]), (37, .agg #[.int .i64 c0, .int .i64 c1, .int .i64 c2, .int .i64 c3, .int .i64 c4, .int .i64 c5, .int .i64 c6, .int .i64 c7]), (7, .pointer (some ⟨pa, 0, none⟩)), (8, .pointer (some ⟨pb, 0, none⟩))]) W := by
            intro W pa pb HF HD
            rw [hF, hA]
            simp only [puts, Act.put, List.getElem_toArray, List.getElem_cons_zero, List.getElem_cons_succ, List.setIfInBounds_toArray, List.set_cons_zero, List.set_cons_succ]
            have hHeld : Hid (Rws w W L0) := Lib.hid HF.out.tail.tail
            refine wpAnyH_ready (rs := [11]) (by kernel_rfl) (by simp) ?_
            refine (AllReadyH.cons rfl (fun K hK => ?_) AllReadyH.nil)
            rw [if_pos (by rfl)]
            have hT : W.there pa 0 8 := HF.out.at0.thereAll
            have HE := Lib.hid (HF.out.put8 (by intro r hr; rcases List.mem_cons.1 hr with rfl | hr; exact HD.out.2.2.2.2.symm; exact HD.out.1 r hr) HD.out.2.1 (.int .i64 a0) (.int .i64 a1) (.int .i64 a2) (.int .i64 a3) (.int .i64 a4) (.int .i64 a5) (.int .i64 a6) (.int .i64 a7))
            refine wp_store_mid 35 (.tmp 7) (.tmp 34) rfl pa 0 #[.int .i64 a0, .int .i64 a1, .int .i64 a2, .int .i64 a3, .int .i64 a4, .int .i64 a5, .int .i64 a6, .int .i64 a7] (by simp [Act.eval]) (by simp [Act.eval]) hT infoCiv (civ_one _ _ _ _ _ _ _ _) ?_
            have HN := Lib.hid HE.out.tail.tail
            refine hK.out _ _ HN (fun hH2 => ?_)
            clear hK K hHeld HN hT HF
            have hHeld := hH2
            clear hH2
            generalize W.setCells pa 0 _ = W3 at HE hHeld ⊢
            (try simp only [Act.put, List.getElem_toArray, List.getElem_cons_zero, List.getElem_cons_succ, List.setIfInBounds_toArray, List.set_cons_zero, List.set_cons_succ])
            refine wpAnyH_ready (rs := [12]) (by kernel_rfl) (by simp) ?_
            refine (AllReadyH.cons rfl (fun K hK => ?_) AllReadyH.nil)
            rw [if_pos (by rfl)]
            have hT : W3.there pb 0 8 := HE.out.at1.thereAll
            have HE2 := Lib.hid (HE.out.swap.put8 (by intro r hr; rcases List.mem_cons.1 hr with rfl | hr; exact HD.out.2.2.2.2; exact HD.out.2.2.1 r hr) HD.out.2.2.2.1 (.int .i64 c0) (.int .i64 c1) (.int .i64 c2) (.int .i64 c3) (.int .i64 c4) (.int .i64 c5) (.int .i64 c6) (.int .i64 c7))
            refine wp_store_mid 35 (.tmp 8) (.tmp 37) rfl pb 0 #[.int .i64 c0, .int .i64 c1, .int .i64 c2, .int .i64 c3, .int .i64 c4, .int .i64 c5, .int .i64 c6, .int .i64 c7] (by simp [Act.eval]) (by simp [Act.eval]) hT infoCiv (civ_one _ _ _ _ _ _ _ _) ?_
            have HN := Lib.hid HE2.out.tail.tail
            refine hK.out _ _ HN (fun hH2 => ?_)
            clear hK K hHeld HN hT HE
            generalize W3.setCells pb 0 _ = W4 at HE2 hH2 ⊢
            (try simp only [Act.put, List.getElem_toArray, List.getElem_cons_zero, List.getElem_cons_succ, List.setIfInBounds_toArray, List.set_cons_zero, List.set_cons_succ])
            refine wpAnyH_done (by kernel_rfl) ?_ _
            exact ⟨rfl, (pa, pb), by (simp only [puts, Act.put, List.setIfInBounds_toArray, List.set_cons_zero, List.set_cons_succ]), HE2.out⟩
          have st5a : ∀ (W : World) (pa : Nat), Hid (Rws w W ((pa, 35, #[.int .i64 0, .int .i64 0, .int .i64 0, .int .i64 0, .int .i64 0, .int .i64 0, .int .i64 0, .int .i64 0]) :: L0)) → Hid ((∀ r ∈ L0, r.1 ≠ pa) ∧ w.heap.size ≤ pa) → F 3 #[true, true, true, true, true, true, true, true, true, true, false, false, false] (A [(29, .pointer (some ⟨w.heap.size + 1, 0, none⟩)), (30, .int .i64 sec), (31, .int .i64 u), (35, .agg #[.int .i64 x, .int .i64 0]), (32, .agg #[.int .i64 u, .int .i64 0]), (33, .agg #[.slice none 0 0, .slice none 0 0, .slice none 0 0, .slice none 0 0]), (34, .agg #[.int .i64 a0, .int .i64 a1, .int .i64 a2, .int .i64 a3, .int .i64 a4, .int .i64 a5, .int .i64 a6, .int .i64 a7]), (36, .agg #[.slice none 0 0, .slice none 0 0, .slice none 0 0, .slice none 0 0]), (37, .agg #[.int .i64 c0, .int .i64 c1, .int .i64 c2, .int .i64 c3, .int .i64 c4, .int .i64 c5, .int .i64 c6, .int .i64 c7]), (7, .pointer (some ⟨pa, 0, none⟩))]) W := by
            intro W pa HF HD
            rw [hF, hA]
            simp only [puts, Act.put, List.getElem_toArray, List.getElem_cons_zero, List.getElem_cons_succ, List.setIfInBounds_toArray, List.set_cons_zero, List.set_cons_succ]
            have hHeld : Hid (Rws w W L0) := Lib.hid HF.out.tail
            refine wpAnyH_ready (rs := [10]) (by kernel_rfl) (by simp) ?_
            refine (AllReadyH.cons rfl (fun K hK => ?_) AllReadyH.nil)
            go_simp
            obtain ⟨pb, hp⟩ : ∃ pb, pb = W.heap.size := ⟨_, rfl⟩
            (try rw [← hp])
            have HF2 : Hid (Rws w (W.alloc (.cells #[.int .i64 0, .int .i64 0, .int .i64 0, .int .i64 0, .int .i64 0, .int .i64 0, .int .i64 0, .int .i64 0] 35)) ((pb, 35, #[.int .i64 0, .int .i64 0, .int .i64 0, .int .i64 0, .int .i64 0, .int .i64 0, .int .i64 0, .int .i64 0]) :: ((pa, 35, #[.int .i64 0, .int .i64 0, .int .i64 0, .int .i64 0, .int .i64 0, .int .i64 0, .int .i64 0, .int .i64 0]) :: L0))) := Lib.hid (HF.out.alloc pb hp _ _)
            have HD2 : Hid ((∀ r ∈ L0, r.1 ≠ pa) ∧ w.heap.size ≤ pa ∧ (∀ r ∈ L0, r.1 ≠ pb) ∧ w.heap.size ≤ pb ∧ pa ≠ pb) := Lib.hid ⟨HD.out.1, HD.out.2, (fun q hq => Nat.ne_of_lt (by rw [hp]; exact HF.out.lt q (List.mem_cons_of_mem _ hq))), (by rw [hp]; exact HF.out.2.size), Nat.ne_of_lt (by rw [hp]; exact HF.out.at0.lt)⟩
            refine kHeld hK.out (W := W.alloc (.cells #[.int .i64 0, .int .i64 0, .int .i64 0, .int .i64 0, .int .i64 0, .int .i64 0, .int .i64 0, .int .i64 0] 35)) (Lib.hid HF2.out.tail.tail) (fun hH2 => ?_)
            clear hK K hHeld
            generalize W.alloc (.cells #[.int .i64 0, .int .i64 0, .int .i64 0, .int .i64 0, .int .i64 0, .int .i64 0, .int .i64 0, .int .i64 0] 35) = W5 at hH2 HF2 ⊢
            (try simp only [Act.put, List.getElem_toArray, List.getElem_cons_zero, List.getElem_cons_succ, List.setIfInBounds_toArray, List.set_cons_zero, List.set_cons_succ])
            have hz := st5ab W5 pa pb (Lib.hid HF2.out.swap) HD2
            rw [hF, hA] at hz
            simp only [puts, Act.put, List.getElem_toArray, List.getElem_cons_zero, List.getElem_cons_succ, List.setIfInBounds_toArray, List.set_cons_zero, List.set_cons_succ] at hz
            exact hz
          have st5b : ∀ (W : World) (pb : Nat), Hid (Rws w W ((pb, 35, #[.int .i64 0, .int .i64 0, .int .i64 0, .int .i64 0, .int .i64 0, .int .i64 0, .int .i64 0, .int .i64 0]) :: L0)) → Hid ((∀ r ∈ L0, r.1 ≠ pb) ∧ w.heap.size ≤ pb) → F 3 #[true, true, true, true, true, true, true, true, true, false, true, false, false] (A [(29, .pointer (some ⟨w.heap.size + 1, 0, none⟩)), (30, .int .i64 sec), (31, .int .i64 u), (35, .agg #[.int .i64 x, .int .i64 0]), (32, .agg #[.int .i64 u, .int .i64 0]), (33, .agg #[.slice none 0 0, .slice none 0 0, .slice none 0 0, .slice none 0 0]), (34, .agg #[.int .i64 a0, .int .i64 a1, .int .i64 a2, .int .i64 a3, .int .i64 a4, .int .i64 a5, .int .i64 a6, .int .i64 a7]), (36, .agg #[.slice none 0 0, .slice none 0 0, .slice none 0 0, .slice none 0 0]), (37, .agg #[.int .i64 c0, .int .i64 c1, .int .i64 c2, .int .i64 c3, .int .i64 c4, .int .i64 c5, .int .i64 c6, .int .i64 c7]), (8, .pointer (some ⟨pb, 0, none⟩))]) W := by
            intro W pb HF HD
            rw [hF, hA]
            simp only [puts, Act.put, List.getElem_toArray, List.getElem_cons_zero, List.getElem_cons_succ, List.setIfInBounds_toArray, List.set_cons_zero, List.set_cons_succ]
            have hHeld : Hid (Rws w W L0) := Lib.hid HF.out.tail
            refine wpAnyH_ready (rs := [9]) (by kernel_rfl) (by simp) ?_
            refine (AllReadyH.cons rfl (fun K hK => ?_) AllReadyH.nil)
            go_simp
            obtain ⟨pa, hp⟩ : ∃ pa, pa = W.heap.size := ⟨_, rfl⟩
            (try rw [← hp])
            have HF2 : Hid (Rws w (W.alloc (.cells #[.int .i64 0, .int .i64 0, .int .i64 0, .int .i64 0, .int .i64 0, .int .i64 0, .int .i64 0, .int .i64 0] 35)) ((pa, 35, #[.int .i64 0, .int .i64 0, .int .i64 0, .int .i64 0, .int .i64 0, .int .i64 0, .int .i64 0, .int .i64 0]) :: ((pb, 35, #[.int .i64 0, .int .i64 0, .int .i64 0, .int .i64 0, .int .i64 0, .int .i64 0, .int .i64 0, .int .i64 0]) :: L0))) := Lib.hid (HF.out.alloc pa hp _ _)
            have HD2 : Hid ((∀ r ∈ L0, r.1 ≠ pa) ∧ w.heap.size ≤ pa ∧ (∀ r ∈ L0, r.1 ≠ pb) ∧ w.heap.size ≤ pb ∧ pa ≠ pb) := Lib.hid ⟨(fun q hq => Nat.ne_of_lt (by rw [hp]; exact HF.out.lt q (List.mem_cons_of_mem _ hq))), (by rw [hp]; exact HF.out.2.size), HD.out.1, HD.out.2, (Nat.ne_of_lt (by rw [hp]; exact HF.out.at0.lt)).symm⟩
            refine kHeld hK.out (W := W.alloc (.cells #[.int .i64 0, .int .i64 0, .int .i64 0, .int .i64 0, .int .i64 0, .int .i64 0, .int .i64 0, .int .i64 0] 35)) (Lib.hid HF2.out.tail.tail) (fun hH2 => ?_)
            clear hK K hHeld
            generalize W.alloc (.cells #[.int .i64 0, .int .i64 0, .int .i64 0, .int .i64 0, .int .i64 0, .int .i64 0, .int .i64 0, .int .i64 0] 35) = W5 at hH2 HF2 ⊢
            (try simp only [Act.put, List.getElem_toArray, List.getElem_cons_zero, List.getElem_cons_succ, List.setIfInBounds_toArray, List.set_cons_zero, List.set_cons_succ])
            have hz := st5ab W5 pa pb HF2 HD2
            rw [hF, hA] at hz
            simp only [puts, Act.put, List.getElem_toArray, List.getElem_cons_zero, List.getElem_cons_succ, List.setIfInBounds_toArray, List.set_cons_zero, List.set_cons_succ] at hz
            exact hz
          have st5 : ∀ (W : World), Hid (Rws w W L0) → Hid (True) → F 4 #[true, true, true, true, true, true, true, true, true, false, false, false, false] (A [(29, .pointer (some ⟨w.heap.size + 1, 0, none⟩)), (30, .int .i64 sec), (31, .int .i64 u), (35, .agg #[.int .i64 x, .int .i64 0]), (32, .agg #[.int .i64 u, .int .i64 0]), (33, .agg #[.slice none 0 0, .slice none 0 0, .slice none 0 0, .slice none 0 0]), (34, .agg #[.int .i64 a0, .int .i64 a1, .int .i64 a2, .int .i64 a3, .int .i64 a4, .int .i64 a5, .int .i64 a6, .int .i64 a7]), (36, .agg #[.slice none 0 0, .slice none 0 0, .slice none 0 0, .slice none 0 0]), (37, .agg #[.int .i64 c0, .int .i64 c1, .int .i64 c2, .int .i64 c3, .int .i64 c4, .int .i64 c5, .int .i64 c6, .int .i64 c7])]) W := by
            intro W HF HD
            rw [hF, hA]
            simp only [puts, Act.put, List.getElem_toArray, List.getElem_cons_zero, List.getElem_cons_succ, List.setIfInBounds_toArray, List.set_cons_zero, List.set_cons_succ]
            have hHeld : Hid (Rws w W L0) := Lib.hid HF.out
            refine wpAnyH_ready (rs := [9, 10]) (by kernel_rfl) (by simp) ?_
            refine (AllReadyH.cons rfl (fun K hK => ?_) (AllReadyH.cons rfl (fun K hK => ?_) AllReadyH.nil))
            · go_simp
              obtain ⟨pa, hp⟩ : ∃ pa, pa = W.heap.size := ⟨_, rfl⟩
              (try rw [← hp])
              have HF2 : Hid (Rws w (W.alloc (.cells #[.int .i64 0, .int .i64 0, .int .i64 0, .int .i64 0, .int .i64 0, .int .i64 0, .int .i64 0, .int .i64 0] 35)) ((pa, 35, #[.int .i64 0, .int .i64 0, .int .i64 0, .int .i64 0, .int .i64 0, .int .i64 0, .int .i64 0, .int .i64 0]) :: L0)) := Lib.hid (HF.out.alloc pa hp _ _)
              have HD2 : Hid ((∀ r ∈ L0, r.1 ≠ pa) ∧ w.heap.size ≤ pa) := Lib.hid ⟨(fun q hq => Nat.ne_of_lt (by rw [hp]; exact HF.out.lt q hq)), (by rw [hp]; exact HF.out.2.size)⟩
              refine kHeld hK.out (W := W.alloc (.cells #[.int .i64 0, .int .i64 0, .int .i64 0, .int .i64 0, .int .i64 0, .int .i64 0, .int .i64 0, .int .i64 0] 35)) (Lib.hid HF2.out.tail) (fun hH2 => ?_)
              clear hK K hHeld
              generalize W.alloc (.cells #[.int .i64 0, .int .i64 0, .int .i64 0, .int .i64 0, .int .i64 0, .int .i64 0, .int .i64 0, .int .i64 0] 35) = W5 at hH2 HF2 ⊢
              (try simp only [Act.put, List.getElem_toArray, List.getElem_cons_zero, List.getElem_cons_succ, List.setIfInBounds_toArray, List.set_cons_zero, List.set_cons_succ])
              have hz := st5a W5 pa HF2 HD2
              rw [hF, hA] at hz
              simp only [puts, Act.put, List.getElem_toArray, List.getElem_cons_zero, List.getElem_cons_succ, List.setIfInBounds_toArray, List.set_cons_zero, List.set_cons_succ] at hz
              exact hz
            · go_simp
              obtain ⟨pb, hp⟩ : ∃ pb, pb = W.heap.size := ⟨_, rfl⟩
              (try rw [← hp])
              have HF2 : Hid (Rws w (W.alloc (.cells #[.int .i64 0, .int .i64 0, .int .i64 0, .int .i64 0, .int .i64 0, .int .i64 0, .int .i64 0, .int .i64 0] 35)) ((pb, 35, #[.int .i64 0, .int .i64 0, .int .i64 0, .int .i64 0, .int .i64 0, .int .i64 0, .int .i64 0, .int .i64 0]) :: L0)) := Lib.hid (HF.out.alloc pb hp _ _)
              have HD2 : Hid ((∀ r ∈ L0, r.1 ≠ pb) ∧ w.heap.size ≤ pb) := Lib.hid ⟨(fun q hq => Nat.ne_of_lt (by rw [hp]; exact HF.out.lt q hq)), (by rw [hp]; exact HF.out.2.size)⟩
              refine kHeld hK.out (W := W.alloc (.cells #[.int .i64 0, .int .i64 0, .int .i64 0, .int .i64 0, .int .i64 0, .int .i64 0, .int .i64 0, .int .i64 0] 35)) (Lib.hid HF2.out.tail) (fun hH2 => ?_)
              clear hK K hHeld
              generalize W.alloc (.cells #[.int .i64 0, .int .i64 0, .int .i64 0, .int .i64 0, .int .i64 0, .int .i64 0, .int .i64 0, .int .i64 0] 35) = W5 at hH2 HF2 ⊢
              (try simp only [Act.put, List.getElem_toArray, List.getElem_cons_zero, List.getElem_cons_succ, List.setIfInBounds_toArray, List.set_cons_zero, List.set_cons_succ])
              have hz := st5b W5 pb HF2 HD2
              rw [hF, hA] at hz
              simp only [puts, Act.put, List.getElem_toArray, List.getElem_cons_zero, List.getElem_cons_succ, List.setIfInBounds_toArray, List.set_cons_zero, List.set_cons_succ] at hz
              exact hz
          have st4ab : ∀ (W : World) (pa : Nat) (pb : Nat), Hid (Rws w W ((pa, 35, #[.int .i64 0, .int .i64 0, .int .i64 0, .int .i64 0, .int .i64 0, .int .i64 0, .int .i64 0, .int .i64 0]) :: ((pb, 35, #[.int .i64 0, .int .i64 0, .int .i64 0, .int .i64 0, .int .i64 0, .int .i64 0, .int .i64 0, .int .i64 0]) :: L0))) → Hid ((∀ r ∈ L0, r.1 ≠ pa) ∧ w.heap.size ≤ pa ∧ (∀ r ∈ L0, r.1 ≠ pb) ∧ w.heap.size ≤ pb ∧ pa ≠ pb) → F 3 #[true, true, true, true, true, true, true, true, false, true, true, false, false] (A [(29, .pointer (some ⟨w.heap.size + 1, 0, none⟩)), (30, .int .i64 sec), (31, .int .i64 u), (35, .agg #[.int .i64 x, .int .i64 0]), (32, .agg #[.int .i64 u, .int .i64 0]), (33, .agg #[.slice none 0 0, .slice none 0 0, .slice none 0 0, .slice none 0 0]), (34, .agg #[.int .i64 a0, .int .i64 a1, .int .i64 a2, .int .i64 a3, .int .i64 a4, .int .i64 a5, .int .i64 a6, .int .i64 a7]), (36, .agg #[.slice none 0 0, .slice none 0 0, .slice none 0 0, .slice none 0 0]), (7, .pointer (some ⟨pa, 0, none⟩)), (8, .pointer (some ⟨pb, 0, none⟩))]) W := by
            intro W pa pb HF HD
            rw [hF, hA]
            simp only [puts, Act.put, List.getElem_toArray, List.getElem_cons_zero, List.getElem_cons_succ, List.setIfInBounds_toArray, List.set_cons_zero, List.set_cons_succ]
            have hHeld : Hid (Rws w W L0) := Lib.hid HF.out.tail.tail
            refine wpAnyH_ready (rs := [8]) (by kernel_rfl) (by simp) ?_
            refine (AllReadyH.cons rfl (fun K hK => ?_) AllReadyH.nil)
            go_simp
            go_at_call 15
            refine (HCB.out _).mono ?_
            rintro e W5 ⟨rfl, hb⟩
            have HF2 : Hid (Rws w W5 ((pa, 35, #[.int .i64 0, .int .i64 0, .int .i64 0, .int .i64 0, .int .i64 0, .int .i64 0, .int .i64 0, .int .i64 0]) :: ((pb, 35, #[.int .i64 0, .int .i64 0, .int .i64 0, .int .i64 0, .int .i64 0, .int .i64 0, .int .i64 0, .int .i64 0]) :: L0))) := Lib.hid (HF.out.below hb)
            have HN : Hid (Rws w W5 L0) := Lib.hid HF2.out.tail.tail
            refine hK.out _ _ HN (fun hH2 => ?_)
            clear hK K hHeld hb
            (try simp only [Act.put, List.getElem_toArray, List.getElem_cons_zero, List.getElem_cons_succ, List.setIfInBounds_toArray, List.set_cons_zero, List.set_cons_succ])
            have hz := st5ab W5 pa pb HF2 HD
            rw [hF, hA] at hz
            simp only [puts, Act.put, List.getElem_toArray, List.getElem_cons_zero, List.getElem_cons_succ, List.setIfInBounds_toArray, List.set_cons_zero, List.set_cons_succ] at hz
            exact hz
          have st4a : ∀ (W : World) (pa : Nat), Hid (Rws w W ((pa, 35, #[.int .i64 0, .int .i64 0, .int .i64 0, .int .i64 0, .int .i64 0, .int .i64 0, .int .i64 0, .int .i64 0]) :: L0)) → Hid ((∀ r ∈ L0, r.1 ≠ pa) ∧ w.heap.size ≤ pa) → F 4 #[true, true, true, true, true, true, true, true, false, true, false, false, false] (A [(29, .pointer (some ⟨w.heap.size + 1, 0, none⟩)), (30, .int .i64 sec), (31, .int .i64 u), (35, .agg #[.int .i64 x, .int .i64 0]), (32, .agg #[.int .i64 u, .int .i64 0]), (33, .agg #[.slice none 0 0, .slice none 0 0, .slice none 0 0, .slice none 0 0]), (34, .agg #[.int .i64 a0, .int .i64 a1, .int .i64 a2, .int .i64 a3, .int .i64 a4, .int .i64 a5, .int .i64 a6, .int .i64 a7]), (36, .agg #[.slice none 0 0, .slice none 0 0, .slice none 0 0, .slice none 0 0]), (7, .pointer (some ⟨pa, 0, none⟩))]) W := by
            intro W pa HF HD
            rw [hF, hA]
            simp only [puts, Act.put, List.getElem_toArray, List.getElem_cons_zero, List.getElem_cons_succ, List.setIfInBounds_toArray, List.set_cons_zero, List.set_cons_succ]
            have hHeld : Hid (Rws w W L0) := Lib.hid HF.out.tail
            refine wpAnyH_ready (rs := [8, 10]) (by kernel_rfl) (by simp) ?_
            refine (AllReadyH.cons rfl (fun K hK => ?_) (AllReadyH.cons rfl (fun K hK => ?_) AllReadyH.nil))
            · go_simp
              go_at_call 15
              refine (HCB.out _).mono ?_
              rintro e W5 ⟨rfl, hb⟩
              have HF2 : Hid (Rws w W5 ((pa, 35, #[.int .i64 0, .int .i64 0, .int .i64 0, .int .i64 0, .int .i64 0, .int .i64 0, .int .i64 0, .int .i64 0]) :: L0)) := Lib.hid (HF.out.below hb)
              have HN : Hid (Rws w W5 L0) := Lib.hid HF2.out.tail
              refine hK.out _ _ HN (fun hH2 => ?_)
              clear hK K hHeld hb
              (try simp only [Act.put, List.getElem_toArray, List.getElem_cons_zero, List.getElem_cons_succ, List.setIfInBounds_toArray, List.set_cons_zero, List.set_cons_succ])
              have hz := st5a W5 pa HF2 HD
              rw [hF, hA] at hz
              simp only [puts, Act.put, List.getElem_toArray, List.getElem_cons_zero, List.getElem_cons_succ, List.setIfInBounds_toArray, List.set_cons_zero, List.set_cons_succ] at hz
              exact hz
            · go_simp
              obtain ⟨pb, hp⟩ : ∃ pb, pb = W.heap.size := ⟨_, rfl⟩
              (try rw [← hp])
              have HF2 : Hid (Rws w (W.alloc (.cells #[.int .i64 0, .int .i64 0, .int .i64 0, .int .i64 0, .int .i64 0, .int .i64 0, .int .i64 0, .int .i64 0] 35)) ((pb, 35, #[.int .i64 0, .int .i64 0, .int .i64 0, .int .i64 0, .int .i64 0, .int .i64 0, .int .i64 0, .int .i64 0]) :: ((pa, 35, #[.int .i64 0, .int .i64 0, .int .i64 0, .int .i64 0, .int .i64 0, .int .i64 0, .int .i64 0, .int .i64 0]) :: L0))) := Lib.hid (HF.out.alloc pb hp _ _)
              have HD2 : Hid ((∀ r ∈ L0, r.1 ≠ pa) ∧ w.heap.size ≤ pa ∧ (∀ r ∈ L0, r.1 ≠ pb) ∧ w.heap.size ≤ pb ∧ pa ≠ pb) := Lib.hid ⟨HD.out.1, HD.out.2, (fun q hq => Nat.ne_of_lt (by rw [hp]; exact HF.out.lt q (List.mem_cons_of_mem _ hq))), (by rw [hp]; exact HF.out.2.size), Nat.ne_of_lt (by rw [hp]; exact HF.out.at0.lt)⟩
              refine kHeld hK.out (W := W.alloc (.cells #[.int .i64 0, .int .i64 0, .int .i64 0, .int .i64 0, .int .i64 0, .int .i64 0, .int .i64 0, .int .i64 0] 35)) (Lib.hid HF2.out.tail.tail) (fun hH2 => ?_)
              clear hK K hHeld
              generalize W.alloc (.cells #[.int .i64 0, .int .i64 0, .int .i64 0, .int .i64 0, .int .i64 0, .int .i64 0, .int .i64 0, .int .i64 0] 35) = W5 at hH2 HF2 ⊢
              (try simp only [Act.put, List.getElem_toArray, List.getElem_cons_zero, List.getElem_cons_succ, List.setIfInBounds_toArray, List.set_cons_zero, List.set_cons_succ])
              have hz := st4ab W5 pa pb (Lib.hid HF2.out.swap) HD2
              rw [hF, hA] at hz
              simp only [puts, Act.put, List.getElem_toArray, List.getElem_cons_zero, List.getElem_cons_succ, List.setIfInBounds_toArray, List.set_cons_zero, List.set_cons_succ] at hz
              exact hz
          have st4b : ∀ (W : World) (pb : Nat), Hid (Rws w W ((pb, 35, #[.int .i64 0, .int .i64 0, .int .i64 0, .int .i64 0, .int .i64 0, .int .i64 0, .int .i64 0, .int .i64 0]) :: L0)) → Hid ((∀ r ∈ L0, r.1 ≠ pb) ∧ w.heap.size ≤ pb) → F 4 #[true, true, true, true, true, true, true, true, false, false, true, false, false] (A [(29, .pointer (some ⟨w.heap.size + 1, 0, none⟩)), (30, .int .i64 sec), (31, .int .i64 u), (35, .agg #[.int .i64 x, .int .i64 0]), (32, .agg #[.int .i64 u, .int .i64 0]), (33, .agg #[.slice none 0 0, .slice none 0 0, .slice none 0 0, .slice none 0 0]), (34, .agg #[.int .i64 a0, .int .i64 a1, .int .i64 a2, .int .i64 a3, .int .i64 a4, .int .i64 a5, .int .i64 a6, .int .i64 a7]), (36, .agg #[.slice none 0 0, .slice none 0 0, .slice none 0 0, .slice none 0 0]), (8, .pointer (some ⟨pb, 0, none⟩))]) W := by
            intro W pb HF HD
            rw [hF, hA]
            simp only [puts, Act.put, List.getElem_toArray, List.getElem_cons_zero, List.getElem_cons_succ, List.setIfInBounds_toArray, List.set_cons_zero, List.set_cons_succ]
            have hHeld : Hid (Rws w W L0) := Lib.hid HF.out.tail
            refine wpAnyH_ready (rs := [8, 9]) (by kernel_rfl) (by simp) ?_
            refine (AllReadyH.cons rfl (fun K hK => ?_) (AllReadyH.cons rfl (fun K hK => ?_) AllReadyH.nil))
            · go_simp
              go_at_call 15
              refine (HCB.out _).mono ?_
              rintro e W5 ⟨rfl, hb⟩
              have HF2 : Hid (Rws w W5 ((pb, 35, #[.int .i64 0, .int .i64 0, .int .i64 0, .int .i64 0, .int .i64 0, .int .i64 0, .int .i64 0, .int .i64 0]) :: L0)) := Lib.hid (HF.out.below hb)
              have HN : Hid (Rws w W5 L0) := Lib.hid HF2.out.tail
              refine hK.out _ _ HN (fun hH2 => ?_)
              clear hK K hHeld hb
              (try simp only [Act.put, List.getElem_toArray, List.getElem_cons_zero, List.getElem_cons_succ, List.setIfInBounds_toArray, List.set_cons_zero, List.set_cons_succ])
              have hz := st5b W5 pb HF2 HD
              rw [hF, hA] at hz
              simp only [puts, Act.put, List.getElem_toArray, List.getElem_cons_zero, List.getElem_cons_succ, List.setIfInBounds_toArray, List.set_cons_zero, List.set_cons_succ] at hz
              exact hz
            · go_simp
              obtain ⟨pa, hp⟩ : ∃ pa, pa = W.heap.size := ⟨_, rfl⟩
              (try rw [← hp])
              have HF2 : Hid (Rws w (W.alloc (.cells #[.int .i64 0, .int .i64 0, .int .i64 0, .int .i64 0, .int .i64 0, .int .i64 0, .int .i64 0, .int .i64 0] 35)) ((pa, 35, #[.int .i64 0, .int .i64 0, .int .i64 0, .int .i64 0, .int .i64 0, .int .i64 0, .int .i64 0, .int .i64 0]) :: ((pb, 35, #[.int .i64 0, .int .i64 0, .int .i64 0, .int .i64 0, .int .i64 0, .int .i64 0, .int .i64 0, .int .i64 0]) :: L0))) := Lib.hid (HF.out.alloc pa hp _ _)
              have HD2 : Hid ((∀ r ∈ L0, r.1 ≠ pa) ∧ w.heap.size ≤ pa ∧ (∀ r ∈ L0, r.1 ≠ pb) ∧ w.heap.size ≤ pb ∧ pa ≠ pb) := Lib.hid ⟨(fun q hq => Nat.ne_of_lt (by rw [hp]; exact HF.out.lt q (List.mem_cons_of_mem _ hq))), (by rw [hp]; exact HF.out.2.size), HD.out.1, HD.out.2, (Nat.ne_of_lt (by rw [hp]; exact HF.out.at0.lt)).symm⟩
              refine kHeld hK.out (W := W.alloc (.cells #[.int .i64 0, .int .i64 0, .int .i64 0, .int .i64 0, .int .i64 0, .int .i64 0, .int .i64 0, .int .i64 0] 35)) (Lib.hid HF2.out.tail.tail) (fun hH2 => ?_)
              clear hK K hHeld
              generalize W.alloc (.cells #[.int .i64 0, .int .i64 0, .int .i64 0, .int .i64 0, .int .i64 0, .int .i64 0, .int .i64 0, .int .i64 0] 35) = W5 at hH2 HF2 ⊢
              (try simp only [Act.put, List.getElem_toArray, List.getElem_cons_zero, List.getElem_cons_succ, List.setIfInBounds_toArray, List.set_cons_zero, List.set_cons_succ])
              have hz := st4ab W5 pa pb HF2 HD2
              rw [hF, hA] at hz
              simp only [puts, Act.put, List.getElem_toArray, List.getElem_cons_zero, List.getElem_cons_succ, List.setIfInBounds_toArray, List.set_cons_zero, List.set_cons_succ] at hz
              exact hz
          have st4 : ∀ (W : World), Hid (Rws w W L0) → Hid (True) → F 5 #[true, true, true, true, true, true, true, true, false, false, false, false, false] (A [(29, .pointer (some ⟨w.heap.size + 1, 0, none⟩)), (30, .int .i64 sec), (31, .int .i64 u), (35, .agg #[.int .i64 x, .int .i64 0]), (32, .agg #[.int .i64 u, .int .i64 0]), (33, .agg #[.slice none 0 0, .slice none 0 0, .slice none 0 0, .slice none 0 0]), (34, .agg #[.int .i64 a0, .int .i64 a1, .int .i64 a2, .int .i64 a3, .int .i64 a4, .int .i64 a5, .int .i64 a6, .int .i64 a7]), (36, .agg #[.slice none 0 0, .slice none 0 0, .slice none 0 0, .slice none 0 0])]) W := by
            intro W HF HD
            rw [hF, hA]
            simp only [puts, Act.put, List.getElem_toArray, List.getElem_cons_zero, List.getElem_cons_succ, List.setIfInBounds_toArray, List.set_cons_zero, List.set_cons_succ]
            have hHeld : Hid (Rws w W L0) := Lib.hid HF.out
            refine wpAnyH_ready (rs := [8, 9, 10]) (by kernel_rfl) (by simp) ?_
            refine (AllReadyH.cons rfl (fun K hK => ?_) (AllReadyH.cons rfl (fun K hK => ?_) (AllReadyH.cons rfl (fun K hK => ?_) AllReadyH.nil)))
            · go_simp
              go_at_call 15
              refine (HCB.out _).mono ?_
              rintro e W5 ⟨rfl, hb⟩
              have HF2 : Hid (Rws w W5 L0) := Lib.hid (HF.out.below hb)
              have HN : Hid (Rws w W5 L0) := Lib.hid HF2.out
              refine hK.out _ _ HN (fun hH2 => ?_)
              clear hK K hHeld hb
              (try simp only [Act.put, List.getElem_toArray, List.getElem_cons_zero, List.getElem_cons_succ, List.setIfInBounds_toArray, List.set_cons_zero, List.set_cons_succ])
              have hz := st5 W5 HF2 HD
              rw [hF, hA] at hz
              simp only [puts, Act.put, List.getElem_toArray, List.getElem_cons_zero, List.getElem_cons_succ, List.setIfInBounds_toArray, List.set_cons_zero, List.set_cons_succ] at hz
              exact hz
            · go_simp
              obtain ⟨pa, hp⟩ : ∃ pa, pa = W.heap.size := ⟨_, rfl⟩
              (try rw [← hp])
              have HF2 : Hid (Rws w (W.alloc (.cells #[.int .i64 0, .int .i64 0, .int .i64 0, .int .i64 0, .int .i64 0, .int .i64 0, .int .i64 0, .int .i64 0] 35)) ((pa, 35, #[.int .i64 0, .int .i64 0, .int .i64 0, .int .i64 0, .int .i64 0, .int .i64 0, .int .i64 0, .int .i64 0]) :: L0)) := Lib.hid (HF.out.alloc pa hp _ _)
              have HD2 : Hid ((∀ r ∈ L0, r.1 ≠ pa) ∧ w.heap.size ≤ pa) := Lib.hid ⟨(fun q hq => Nat.ne_of_lt (by rw [hp]; exact HF.out.lt q hq)), (by rw [hp]; exact HF.out.2.size)⟩
              refine kHeld hK.out (W := W.alloc (.cells #[.int .i64 0, .int .i64 0, .int .i64 0, .int .i64 0, .int .i64 0, .int .i64 0, .int .i64 0, .int .i64 0] 35)) (Lib.hid HF2.out.tail) (fun hH2 => ?_)
              clear hK K hHeld
              generalize W.alloc (.cells #[.int .i64 0, .int .i64 0, .int .i64 0, .int .i64 0, .int .i64 0, .int .i64 0, .int .i64 0, .int .i64 0] 35) = W5 at hH2 HF2 ⊢
              (try simp only [Act.put, List.getElem_toArray, List.getElem_cons_zero, List.getElem_cons_succ, List.setIfInBounds_toArray, List.set_cons_zero, List.set_cons_succ])
              have hz := st4a W5 pa HF2 HD2
              rw [hF, hA] at hz
              simp only [puts, Act.put, List.getElem_toArray, List.getElem_cons_zero, List.getElem_cons_succ, List.setIfInBounds_toArray, List.set_cons_zero, List.set_cons_succ] at hz
              exact hz
            · go_simp
              obtain ⟨pb, hp⟩ : ∃ pb, pb = W.heap.size := ⟨_, rfl⟩
              (try rw [← hp])
              have HF2 : Hid (Rws w (W.alloc (.cells #[.int .i64 0, .int .i64 0, .int .i64 0, .int .i64 0, .int .i64 0, .int .i64 0, .int .i64 0, .int .i64 0] 35)) ((pb, 35, #[.int .i64 0, .int .i64 0, .int .i64 0, .int .i64 0, .int .i64 0, .int .i64 0, .int .i64 0, .int .i64 0]) :: L0)) := Lib.hid (HF.out.alloc pb hp _ _)
              have HD2 : Hid ((∀ r ∈ L0, r.1 ≠ pb) ∧ w.heap.size ≤ pb) := Lib.hid ⟨(fun q hq => Nat.ne_of_lt (by rw [hp]; exact HF.out.lt q hq)), (by rw [hp]; exact HF.out.2.size)⟩
              refine kHeld hK.out (W := W.alloc (.cells #[.int .i64 0, .int .i64 0, .int .i64 0, .int .i64 0, .int .i64 0, .int .i64 0, .int .i64 0, .int .i64 0] 35)) (Lib.hid HF2.out.tail) (fun hH2 => ?_)
              clear hK K hHeld
              generalize W.alloc (.cells #[.int .i64 0, .int .i64 0, .int .i64 0, .int .i64 0, .int .i64 0, .int .i64 0, .int .i64 0, .int .i64 0] 35) = W5 at hH2 HF2 ⊢
              (try simp only [Act.put, List.getElem_toArray, List.getElem_cons_zero, List.getElem_cons_succ, List.setIfInBounds_toArray, List.set_cons_zero, List.set_cons_succ])
              have hz := st4b W5 pb HF2 HD2
              rw [hF, hA] at hz
              simp only [puts, Act.put, List.getElem_toArray, List.getElem_cons_zero, List.getElem_cons_succ, List.setIfInBounds_toArray, List.set_cons_zero, List.set_cons_succ] at hz
              exact hz
          have st3ab : ∀ (W : World) (pa : Nat) (pb : Nat), Hid (Rws w W ((pa, 35, #[.int .i64 0, .int .i64 0, .int .i64 0, .int .i64 0, .int .i64 0, .int .i64 0, .int .i64 0, .int .i64 0]) :: ((pb, 35, #[.int .i64 0, .int .i64 0, .int .i64 0, .int .i64 0, .int .i64 0, .int .i64 0, .int .i64 0, .int .i64 0]) :: L0))) → Hid ((∀ r ∈ L0, r.1 ≠ pa) ∧ w.heap.size ≤ pa ∧ (∀ r ∈ L0, r.1 ≠ pb) ∧ w.heap.size ≤ pb ∧ pa ≠ pb) → F 4 #[true, true, true, true, true, true, true, false, false, true, true, false, false] (A [(29, .pointer (some ⟨w.heap.size + 1, 0, none⟩)), (30, .int .i64 sec), (31, .int .i64 u), (35, .agg #[.int .i64 x, .int .i64 0]), (32, .agg #[.int .i64 u, .int .i64 0]), (33, .agg #[.slice none 0 0, .slice none 0 0, .slice none 0 0, .slice none 0 0]), (34, .agg #[.int .i64 a0, .int .i64 a1, .int .i64 a2, .int .i64 a3, .int .i64 a4, .int .i64 a5, .int .i64 a6, .int .i64 a7]), (7, .pointer (some ⟨pa, 0, none⟩)), (8, .pointer (some ⟨pb, 0, none⟩))]) W := by
            intro W pa pb HF HD
            rw [hF, hA]
            simp only [puts, Act.put, List.getElem_toArray, List.getElem_cons_zero, List.getElem_cons_succ, List.setIfInBounds_toArray, List.set_cons_zero, List.set_cons_succ]
            have hHeld : Hid (Rws w W L0) := Lib.hid HF.out.tail.tail
            refine wpAnyH_ready (rs := [7]) (by kernel_rfl) (by simp) ?_
            refine (AllReadyH.cons rfl (fun K hK => ?_) AllReadyH.nil)
            go_simp
            go_at_call 19
            refine (cronUTC_any _).mono ?_
            rintro e W5 ⟨rfl, hb⟩
            have HF2 : Hid (Rws w W5 ((pa, 35, #[.int .i64 0, .int .i64 0, .int .i64 0, .int .i64 0, .int .i64 0, .int .i64 0, .int .i64 0, .int .i64 0]) :: ((pb, 35, #[.int .i64 0, .int .i64 0, .int .i64 0, .int .i64 0, .int .i64 0, .int .i64 0, .int .i64 0, .int .i64 0]) :: L0))) := Lib.hid (HF.out.below hb)
            have HN : Hid (Rws w W5 L0) := Lib.hid HF2.out.tail.tail
            refine hK.out _ _ HN (fun hH2 => ?_)
            clear hK K hHeld hb
            (try simp only [Act.put, List.getElem_toArray, List.getElem_cons_zero, List.getElem_cons_succ, List.setIfInBounds_toArray, List.set_cons_zero, List.set_cons_succ])
            have hz := st4ab W5 pa pb HF2 HD
            rw [hF, hA] at hz
            simp only [puts, Act.put, List.getElem_toArray, List.getElem_cons_zero, List.getElem_cons_succ, List.setIfInBounds_toArray, List.set_cons_zero, List.set_cons_succ] at hz
            exact hz
          have st3a : ∀ (W : World) (pa : Nat), Hid (Rws w W ((pa, 35, #[.int .i64 0, .int .i64 0, .int .i64 0, .int .i64 0, .int .i64 0, .int .i64 0, .int .i64 0, .int .i64 0]) :: L0)) → Hid ((∀ r ∈ L0, r.1 ≠ pa) ∧ w.heap.size ≤ pa) → F 5 #[true, true, true, true, true, true, true, false, false, true, false, false, false] (A [(29, .pointer (some ⟨w.heap.size + 1, 0, none⟩)), (30, .int .i64 sec), (31, .int .i64 u), (35, .agg #[.int .i64 x, .int .i64 0]), (32, .agg #[.int .i64 u, .int .i64 0]), (33, .agg #[.slice none 0 0, .slice none 0 0, .slice none 0 0, .slice none 0 0]), (34, .agg #[.int .i64 a0, .int .i64 a1, .int .i64 a2, .int .i64 a3, .int .i64 a4, .int .i64 a5, .int .i64 a6, .int .i64 a7]), (7, .pointer (some ⟨pa, 0, none⟩))]) W := by
            intro W pa HF HD
            rw [hF, hA]
            simp only [puts, Act.put, List.getElem_toArray, List.getElem_cons_zero, List.getElem_cons_succ, List.setIfInBounds_toArray, List.set_cons_zero, List.set_cons_succ]
            have hHeld : Hid (Rws w W L0) := Lib.hid HF.out.tail
            refine wpAnyH_ready (rs := [7, 10]) (by kernel_rfl) (by simp) ?_
            refine (AllReadyH.cons rfl (fun K hK => ?_) (AllReadyH.cons rfl (fun K hK => ?_) AllReadyH.nil))
            · go_simp
              go_at_call 19
              refine (cronUTC_any _).mono ?_
              rintro e W5 ⟨rfl, hb⟩
              have HF2 : Hid (Rws w W5 ((pa, 35, #[.int .i64 0, .int .i64 0, .int .i64 0, .int .i64 0, .int .i64 0, .int .i64 0, .int .i64 0, .int .i64 0]) :: L0)) := Lib.hid (HF.out.below hb)
              have HN : Hid (Rws w W5 L0) := Lib.hid HF2.out.tail
              refine hK.out _ _ HN (fun hH2 => ?_)
              clear hK K hHeld hb
              (try simp only [Act.put, List.getElem_toArray, List.getElem_cons_zero, List.getElem_cons_succ, List.setIfInBounds_toArray, List.set_cons_zero, List.set_cons_succ])
              have hz := st4a W5 pa HF2 HD
              rw [hF, hA] at hz
              simp only [puts, Act.put, List.getElem_toArray, List.getElem_cons_zero, List.getElem_cons_succ, List.setIfInBounds_toArray, List.set_cons_zero, List.set_cons_succ] at hz
              exact hz
            · go_simp
              obtain ⟨pb, hp⟩ : ∃ pb, pb = W.heap.size := ⟨_, rfl⟩
              (try rw [← hp])
              have HF2 : Hid (Rws w (W.alloc (.cells #[.int .i64 0, .int .i64 0, .int .i64 0, .int .i64 0, .int .i64 0, .int .i64 0, .int .i64 0, .int .i64 0] 35)) ((pb, 35, #[.int .i64 0, .int .i64 0, .int .i64 0, .int .i64 0, .int .i64 0, .int .i64 0, .int .i64 0, .int .i64 0]) :: ((pa, 35, #[.int .i64 0, .int .i64 0, .int .i64 0, .int .i64 0, .int .i64 0, .int .i64 0, .int .i64 0, .int .i64 0]) :: L0))) := Lib.hid (HF.out.alloc pb hp _ _)
              have HD2 : Hid ((∀ r ∈ L0, r.1 ≠ pa) ∧ w.heap.size ≤ pa ∧ (∀ r ∈ L0, r.1 ≠ pb) ∧ w.heap.size ≤ pb ∧ pa ≠ pb) := Lib.hid ⟨HD.out.1, HD.out.2, (fun q hq => Nat.ne_of_lt (by rw [hp]; exact HF.out.lt q (List.mem_cons_of_mem _ hq))), (by rw [hp]; exact HF.out.2.size), Nat.ne_of_lt (by rw [hp]; exact HF.out.at0.lt)⟩
              refine kHeld hK.out (W := W.alloc (.cells #[.int .i64 0, .int .i64 0, .int .i64 0, .int .i64 0, .int .i64 0, .int .i64 0, .int .i64 0, .int .i64 0] 35)) (Lib.hid HF2.out.tail.tail) (fun hH2 => ?_)
              clear hK K hHeld
              generalize W.alloc (.cells #[.int .i64 0, .int .i64 0, .int .i64 0, .int .i64 0, .int .i64 0, .int .i64 0, .int .i64 0, .int .i64 0] 35) = W5 at hH2 HF2 ⊢
              (try simp only [Act.put, List.getElem_toArray, List.getElem_cons_zero, List.getElem_cons_succ, List.setIfInBounds_toArray, List.set_cons_zero, List.set_cons_succ])
              have hz := st3ab W5 pa pb (Lib.hid HF2.out.swap) HD2
              rw [hF, hA] at hz
              simp only [puts, Act.put, List.getElem_toArray, List.getElem_cons_zero, List.getElem_cons_succ, List.setIfInBounds_toArray, List.set_cons_zero, List.set_cons_succ] at hz
              exact hz
          have st3b : ∀ (W : World) (pb : Nat), Hid (Rws w W ((pb, 35, #[.int .i64 0, .int .i64 0, .int .i64 0, .int .i64 0, .int .i64 0, .int .i64 0, .int .i64 0, .int .i64 0]) :: L0)) → Hid ((∀ r ∈ L0, r.1 ≠ pb) ∧ w.heap.size ≤ pb) → F 5 #[true, true, true, true, true, true, true, false, false, false, true, false, false] (A [(29, .pointer (some ⟨w.heap.size + 1, 0, none⟩)), (30, .int .i64 sec), (31, .int .i64 u), (35, .agg #[.int .i64 x, .int .i64 0]), (32, .agg #[.int .i64 u, .int .i64 0]), (33, .agg #[.slice none 0 0, .slice none 0 0, .slice none 0 0, .slice none 0 0]), (34, .agg #[.int .i64 a0, .int .i64 a1, .int .i64 a2, .int .i64 a3, .int .i64 a4, .int .i64 a5, .int .i64 a6, .int .i64 a7]), (8, .pointer (some ⟨pb, 0, none⟩))]) W := by
            intro W pb HF HD
            rw [hF, hA]
            simp only [puts, Act.put, List.getElem_toArray, List.getElem_cons_zero, List.getElem_cons_succ, List.setIfInBounds_toArray, List.set_cons_zero, List.set_cons_succ]
            have hHeld : Hid (Rws w W L0) := Lib.hid HF.out.tail
            refine wpAnyH_ready (rs := [7, 9]) (by kernel_rfl) (by simp) ?_
            refine (AllReadyH.cons rfl (fun K hK => ?_) (AllReadyH.cons rfl (fun K hK => ?_) AllReadyH.nil))
            · go_simp
              go_at_call 19
              refine (cronUTC_any _).mono ?_
              rintro e W5 ⟨rfl, hb⟩
              have HF2 : Hid (Rws w W5 ((pb, 35, #[.int .i64 0, .int .i64 0, .int .i64 0, .int .i64 0, .int .i64 0, .int .i64 0, .int .i64 0, .int .i64 0]) :: L0)) := Lib.hid (HF.out.below hb)
              have HN : Hid (Rws w W5 L0) := Lib.hid HF2.out.tail
              refine hK.out _ _ HN (fun hH2 => ?_)
              clear hK K hHeld hb
              (try simp only [Act.put, List.getElem_toArray, List.getElem_cons_zero, List.getElem_cons_succ, List.setIfInBounds_toArray, List.set_cons_zero, List.set_cons_succ])
              have hz := st4b W5 pb HF2 HD
              rw [hF, hA] at hz
              simp only [puts, Act.put, List.getElem_toArray, List.getElem_cons_zero, List.getElem_cons_succ, List.setIfInBounds_toArray, List.set_cons_zero, List.set_cons_succ] at hz
              exact hz
            · go_simp
              obtain ⟨pa, hp⟩ : ∃ pa, pa = W.heap.size := ⟨_, rfl⟩
              (try rw [← hp])
              have HF2 : Hid (Rws w (W.alloc (.cells #[.int .i64 0, .int .i64 0, .int .i64 0, .int .i64 0, .int .i64 0, .int .i64 0, .int .i64 0, .int .i64 0] 35)) ((pa, 35, #[.int .i64 0, .int .i64 0, .int .i64 0, .int .i64 0, .int .i64 0, .int .i64 0, .int .i64 0, .int .i64 0]) :: ((pb, 35, #[.int .i64 0, .int .i64 0, .int .i64 0, .int .i64 0, .int .i64 0, .int .i64 0, .int .i64 0, .int .i64 0]) :: L0))) := Lib.hid (HF.out.alloc pa hp _ _)
              have HD2 : Hid ((∀ r ∈ L0, r.1 ≠ pa) ∧ w.heap.size ≤ pa ∧ (∀ r ∈ L0, r.1 ≠ pb) ∧ w.heap.size ≤ pb ∧ pa ≠ pb) := Lib.hid ⟨(fun q hq => Nat.ne_of_lt (by rw [hp]; exact HF.out.lt q (List.mem_cons_of_mem _ hq))), (by rw [hp]; exact HF.out.2.size), HD.out.1, HD.out.2, (Nat.ne_of_lt (by rw [hp]; exact HF.out.at0.lt)).symm⟩
              refine kHeld hK.out (W := W.alloc (.cells #[.int .i64 0, .int .i64 0, .int .i64 0, .int .i64 0, .int .i64 0, .int .i64 0, .int .i64 0, .int .i64 0] 35)) (Lib.hid HF2.out.tail.tail) (fun hH2 => ?_)
              clear hK K hHeld
              generalize W.alloc (.cells #[.int .i64 0, .int .i64 0, .int .i64 0, .int .i64 0, .int .i64 0, .int .i64 0, .int .i64 0, .int .i64 0] 35) = W5 at hH2 HF2 ⊢
              (try simp only [Act.put, List.getElem_toArray, List.getElem_cons_zero, List.getElem_cons_succ, List.setIfInBounds_toArray, List.set_cons_zero, List.set_cons_succ])
              have hz := st3ab W5 pa pb HF2 HD2
              rw [hF, hA] at hz
              simp only [puts, Act.put, List.getElem_toArray, List.getElem_cons_zero, List.getElem_cons_succ, List.setIfInBounds_toArray, List.set_cons_zero, List.set_cons_succ] at hz
              exact hz
          have st3 : ∀ (W : World), Hid (Rws w W L0) → Hid (True) → F 6 #[true, true, true, true, true, true, true, false, false, false, false, false, false] (A [(29, .pointer (some ⟨w.heap.size + 1, 0, none⟩)), (30, .int .i64 sec), (31, .int .i64 u), (35, .agg #[.int .i64 x, .int .i64 0]), (32, .agg #[.int .i64 u, .int .i64 0]), (33, .agg #[.slice none 0 0, .slice none 0 0, .slice none 0 0, .slice none 0 0]), (34, .agg #[.int .i64 a0, .int .i64 a1, .int .i64 a2, .int .i64 a3, .int .i64 a4, .int .i64 a5, .int .i64 a6, .int .i64 a7])]) W := by
            intro W HF HD
            rw [hF, hA]
            simp only [puts, Act.put, List.getElem_toArray, List.getElem_cons_zero, List.getElem_cons_succ, List.setIfInBounds_toArray, List.set_cons_zero, List.set_cons_succ]
            have hHeld : Hid (Rws w W L0) := Lib.hid HF.out
            refine wpAnyH_ready (rs := [7, 9, 10]) (by kernel_rfl) (by simp) ?_
            refine (AllReadyH.cons rfl (fun K hK => ?_) (AllReadyH.cons rfl (fun K hK => ?_) (AllReadyH.cons rfl (fun K hK => ?_) AllReadyH.nil)))
            · go_simp
              go_at_call 19
              refine (cronUTC_any _).mono ?_
              rintro e W5 ⟨rfl, hb⟩
              have HF2 : Hid (Rws w W5 L0) := Lib.hid (HF.out.below hb)
              have HN : Hid (Rws w W5 L0) := Lib.hid HF2.out
              refine hK.out _ _ HN (fun hH2 => ?_)
              clear hK K hHeld hb
              (try simp only [Act.put, List.getElem_toArray, List.getElem_cons_zero, List.getElem_cons_succ, List.setIfInBounds_toArray, List.set_cons_zero, List.set_cons_succ])
              have hz := st4 W5 HF2 HD
              rw [hF, hA] at hz
              simp only [puts, Act.put, List.getElem_toArray, List.getElem_cons_zero, List.getElem_cons_succ, List.setIfInBounds_toArray, List.set_cons_zero, List.set_cons_succ] at hz
              exact hz
            · go_simp
              obtain ⟨pa, hp⟩ : ∃ pa, pa = W.heap.size := ⟨_, rfl⟩
              (try rw [← hp])
              have HF2 : Hid (Rws w (W.alloc (.cells #[.int .i64 0, .int .i64 0, .int .i64 0, .int .i64 0, .int .i64 0, .int .i64 0, .int .i64 0, .int .i64 0] 35)) ((pa, 35, #[.int .i64 0, .int .i64 0, .int .i64 0, .int .i64 0, .int .i64 0, .int .i64 0, .int .i64 0, .int .i64 0]) :: L0)) := Lib.hid (HF.out.alloc pa hp _ _)
              have HD2 : Hid ((∀ r ∈ L0, r.1 ≠ pa) ∧ w.heap.size ≤ pa) := Lib.hid ⟨(fun q hq => Nat.ne_of_lt (by rw [hp]; exact HF.out.lt q hq)), (by rw [hp]; exact HF.out.2.size)⟩
              refine kHeld hK.out (W := W.alloc (.cells #[.int .i64 0, .int .i64 0, .int .i64 0, .int .i64 0, .int .i64 0, .int .i64 0, .int .i64 0, .int .i64 0] 35)) (Lib.hid HF2.out.tail) (fun hH2 => ?_)
              clear hK K hHeld
              generalize W.alloc (.cells #[.int .i64 0, .int .i64 0, .int .i64 0, .int .i64 0, .int .i64 0, .int .i64 0, .int .i64 0, .int .i64 0] 35) = W5 at hH2 HF2 ⊢
              (try simp only [Act.put, List.getElem_toArray, List.getElem_cons_zero, List.getElem_cons_succ, List.setIfInBounds_toArray, List.set_cons_zero, List.set_cons_succ])
              have hz := st3a W5 pa HF2 HD2
              rw [hF, hA] at hz
              simp only [puts, Act.put, List.getElem_toArray, List.getElem_cons_zero, List.getElem_cons_succ, List.setIfInBounds_toArray, List.set_cons_zero, List.set_cons_succ] at hz
              exact hz
            · go_simp
              obtain ⟨pb, hp⟩ : ∃ pb, pb = W.heap.size := ⟨_, rfl⟩
              (try rw [← hp])
              have HF2 : Hid (Rws w (W.alloc (.cells #[.int .i64 0, .int .i64 0, .int .i64 0, .int .i64 0, .int .i64 0, .int .i64 0, .int .i64 0, .int .i64 0] 35)) ((pb, 35, #[.int .i64 0, .int .i64 0, .int .i64 0, .int .i64 0, .int .i64 0, .int .i64 0, .int .i64 0, .int .i64 0]) :: L0)) := Lib.hid (HF.out.alloc pb hp _ _)
              have HD2 : Hid ((∀ r ∈ L0, r.1 ≠ pb) ∧ w.heap.size ≤ pb) := Lib.hid ⟨(fun q hq => Nat.ne_of_lt (by rw [hp]; exact HF.out.lt q hq)), (by rw [hp]; exact HF.out.2.size)⟩
              refine kHeld hK.out (W := W.alloc (.cells #[.int .i64 0, .int .i64 0, .int .i64 0, .int .i64 0, .int .i64 0, .int .i64 0, .int .i64 0, .int .i64 0] 35)) (Lib.hid HF2.out.tail) (fun hH2 => ?_)
              clear hK K hHeld
              generalize W.alloc (.cells #[.int .i64 0, .int .i64 0, .int .i64 0, .int .i64 0, .int .i64 0, .int .i64 0, .int .i64 0, .int .i64 0] 35) = W5 at hH2 HF2 ⊢
              (try simp only [Act.put, List.getElem_toArray, List.getElem_cons_zero, List.getElem_cons_succ, List.setIfInBounds_toArray, List.set_cons_zero, List.set_cons_succ])
              have hz := st3b W5 pb HF2 HD2
              rw [hF, hA] at hz
              simp only [puts, Act.put, List.getElem_toArray, List.getElem_cons_zero, List.getElem_cons_succ, List.setIfInBounds_toArray, List.set_cons_zero, List.set_cons_succ] at hz
              exact hz
          have st2ab : ∀ (W : World) (pa : Nat) (pb : Nat), Hid (Rws w W ((pa, 35, #[.int .i64 0, .int .i64 0, .int .i64 0, .int .i64 0, .int .i64 0, .int .i64 0, .int .i64 0, .int .i64 0]) :: ((pb, 35, #[.int .i64 0, .int .i64 0, .int .i64 0, .int .i64 0, .int .i64 0, .int .i64 0, .int .i64 0, .int .i64 0]) :: L0))) → Hid ((∀ r ∈ L0, r.1 ≠ pa) ∧ w.heap.size ≤ pa ∧ (∀ r ∈ L0, r.1 ≠ pb) ∧ w.heap.size ≤ pb ∧ pa ≠ pb) → F 5 #[true, true, true, true, true, false, true, false, false, true, true, false, false] (A [(29, .pointer (some ⟨w.heap.size + 1, 0, none⟩)), (30, .int .i64 sec), (31, .int .i64 u), (35, .agg #[.int .i64 x, .int .i64 0]), (32, .agg #[.int .i64 u, .int .i64 0]), (33, .agg #[.slice none 0 0, .slice none 0 0, .slice none 0 0, .slice none 0 0]), (7, .pointer (some ⟨pa, 0, none⟩)), (8, .pointer (some ⟨pb, 0, none⟩))]) W := by
            intro W pa pb HF HD
            rw [hF, hA]
            simp only [puts, Act.put, List.getElem_toArray, List.getElem_cons_zero, List.getElem_cons_succ, List.setIfInBounds_toArray, List.set_cons_zero, List.set_cons_succ]
            have hHeld : Hid (Rws w W L0) := Lib.hid HF.out.tail.tail
            refine wpAnyH_ready (rs := [5]) (by kernel_rfl) (by simp) ?_
            refine (AllReadyH.cons rfl (fun K hK => ?_) AllReadyH.nil)
            go_simp
            go_at_call 15
            refine (HCA.out _).mono ?_
            rintro e W5 ⟨rfl, hb⟩
            have HF2 : Hid (Rws w W5 ((pa, 35, #[.int .i64 0, .int .i64 0, .int .i64 0, .int .i64 0, .int .i64 0, .int .i64 0, .int .i64 0, .int .i64 0]) :: ((pb, 35, #[.int .i64 0, .int .i64 0, .int .i64 0, .int .i64 0, .int .i64 0, .int .i64 0, .int .i64 0, .int .i64 0]) :: L0))) := Lib.hid (HF.out.below hb)
            have HN : Hid (Rws w W5 L0) := Lib.hid HF2.out.tail.tail
            refine hK.out _ _ HN (fun hH2 => ?_)
            clear hK K hHeld hb
            (try simp only [Act.put, List.getElem_toArray, List.getElem_cons_zero, List.getElem_cons_succ, List.setIfInBounds_toArray, List.set_cons_zero, List.set_cons_succ])
            have hz := st3ab W5 pa pb HF2 HD
            rw [hF, hA] at hz
            simp only [puts, Act.put, List.getElem_toArray, List.getElem_cons_zero, List.getElem_cons_succ, List.setIfInBounds_toArray, List.set_cons_zero, List.set_cons_succ] at hz
            exact hz
          have st2a : ∀ (W : World) (pa : Nat), Hid (Rws w W ((pa, 35, #[.int .i64 0, .int .i64 0, .int .i64 0, .int .i64 0, .int .i64 0, .int .i64 0, .int .i64 0, .int .i64 0]) :: L0)) → Hid ((∀ r ∈ L0, r.1 ≠ pa) ∧ w.heap.size ≤ pa) → F 6 #[true, true, true, true, true, false, true, false, false, true, false, false, false] (A [(29, .pointer (some ⟨w.heap.size + 1, 0, none⟩)), (30, .int .i64 sec), (31, .int .i64 u), (35, .agg #[.int .i64 x, .int .i64 0]), (32, .agg #[.int .i64 u, .int .i64 0]), (33, .agg #[.slice none 0 0, .slice none 0 0, .slice none 0 0, .slice none 0 0]), (7, .pointer (some ⟨pa, 0, none⟩))]) W := by
            intro W pa HF HD
            rw [hF, hA]
            simp only [puts, Act.put, List.getElem_toArray, List.getElem_cons_zero, List.getElem_cons_succ, List.setIfInBounds_toArray, List.set_cons_zero, List.set_cons_succ]
            have hHeld : Hid (Rws w W L0) := Lib.hid HF.out.tail
            refine wpAnyH_ready (rs := [5, 10]) (by kernel_rfl) (by simp) ?_
            refine (AllReadyH.cons rfl (fun K hK => ?_) (AllReadyH.cons rfl (fun K hK => ?_) AllReadyH.nil))
            · go_simp
              go_at_call 15
              refine (HCA.out _).mono ?_
              rintro e W5 ⟨rfl, hb⟩
              have HF2 : Hid (Rws w W5 ((pa, 35, #[.int .i64 0, .int .i64 0, .int .i64 0, .int .i64 0, .int .i64 0, .int .i64 0, .int .i64 0, .int .i64 0]) :: L0)) := Lib.hid (HF.out.below hb)
              have HN : Hid (Rws w W5 L0) := Lib.hid HF2.out.tail
              refine hK.out _ _ HN (fun hH2 => ?_)
              clear hK K hHeld hb
              (try simp only [Act.put, List.getElem_toArray, List.getElem_cons_zero, List.getElem_cons_succ, List.setIfInBounds_toArray, List.set_cons_zero, List.set_cons_succ])
              have hz := st3a W5 pa HF2 HD
              rw [hF, hA] at hz
              simp only [puts, Act.put, List.getElem_toArray, List.getElem_cons_zero, List.getElem_cons_succ, List.setIfInBounds_toArray, List.set_cons_zero, List.set_cons_succ] at hz
              exact hz
            · go_simp
              obtain ⟨pb, hp⟩ : ∃ pb, pb = W.heap.size := ⟨_, rfl⟩
              (try rw [← hp])
              have HF2 : Hid (Rws w (W.alloc (.cells #[.int .i64 0, .int .i64 0, .int .i64 0, .int .i64 0, .int .i64 0, .int .i64 0, .int .i64 0, .int .i64 0] 35)) ((pb, 35, #[.int .i64 0, .int .i64 0, .int .i64 0, .int .i64 0, .int .i64 0, .int .i64 0, .int .i64 0, .int .i64 0]) :: ((pa, 35, #[.int .i64 0, .int .i64 0, .int .i64 0, .int .i64 0, .int .i64 0, .int .i64 0, .int .i64 0, .int .i64 0]) :: L0))) := Lib.hid (HF.out.alloc pb hp _ _)
              have HD2 : Hid ((∀ r ∈ L0, r.1 ≠ pa) ∧ w.heap.size ≤ pa ∧ (∀ r ∈ L0, r.1 ≠ pb) ∧ w.heap.size ≤ pb ∧ pa ≠ pb) := Lib.hid ⟨HD.out.1, HD.out.2, (fun q hq => Nat.ne_of_lt (by rw [hp]; exact HF.out.lt q (List.mem_cons_of_mem _ hq))), (by rw [hp]; exact HF.out.2.size), Nat.ne_of_lt (by rw [hp]; exact HF.out.at0.lt)⟩
              refine kHeld hK.out (W := W.alloc (.cells #[.int .i64 0, .int .i64 0, .int .i64 0, .int .i64 0, .int .i64 0, .int .i64 0, .int .i64 0, .int .i64 0] 35)) (Lib.hid HF2.out.tail.tail) (fun hH2 => ?_)
              clear hK K hHeld
              generalize W.alloc (.cells #[.int .i64 0, .int .i64 0, .int .i64 0, .int .i64 0, .int .i64 0, .int .i64 0, .int .i64 0, .int .i64 0] 35) = W5 at hH2 HF2 ⊢
              (try simp only [Act.put, List.getElem_toArray, List.getElem_cons_zero, List.getElem_cons_succ, List.setIfInBounds_toArray, List.set_cons_zero, List.set_cons_succ])
              have hz := st2ab W5 pa pb (Lib.hid HF2.out.swap) HD2
              rw [hF, hA] at hz
              simp only [puts, Act.put, List.getElem_toArray, List.getElem_cons_zero, List.getElem_cons_succ, List.setIfInBounds_toArray, List.set_cons_zero, List.set_cons_succ] at hz
              exact hz
          have st2b : ∀ (W : World) (pb : Nat), Hid (Rws w W ((pb, 35, #[.int .i64 0, .int .i64 0, .int .i64 0, .int .i64 0, .int .i64 0, .int .i64 0, .int .i64 0, .int .i64 0]) :: L0)) → Hid ((∀ r ∈ L0, r.1 ≠ pb) ∧ w.heap.size ≤ pb) → F 6 #[true, true, true, true, true, false, true, false, false, false, true, false, false] (A [(29, .pointer (some ⟨w.heap.size + 1, 0, none⟩)), (30, .int .i64 sec), (31, .int .i64 u), (35, .agg #[.int .i64 x, .int .i64 0]), (32, .agg #[.int .i64 u, .int .i64 0]), (33, .agg #[.slice none 0 0, .slice none 0 0, .slice none 0 0, .slice none 0 0]), (8, .pointer (some ⟨pb, 0, none⟩))]) W := by
            intro W pb HF HD
            rw [hF, hA]
            simp only [puts, Act.put, List.getElem_toArray, List.getElem_cons_zero, List.getElem_cons_succ, List.setIfInBounds_toArray, List.set_cons_zero, List.set_cons_succ]
            have hHeld : Hid (Rws w W L0) := Lib.hid HF.out.tail
            refine wpAnyH_ready (rs := [5, 9]) (by kernel_rfl) (by simp) ?_
            refine (AllReadyH.cons rfl (fun K hK => ?_) (AllReadyH.cons rfl (fun K hK => ?_) AllReadyH.nil))
            · go_simp
              go_at_call 15
              refine (HCA.out _).mono ?_
              rintro e W5 ⟨rfl, hb⟩
              have HF2 : Hid (Rws w W5 ((pb, 35, #[.int .i64 0, .int .i64 0, .int .i64 0, .int .i64 0, .int .i64 0, .int .i64 0, .int .i64 0, .int .i64 0]) :: L0)) := Lib.hid (HF.out.below hb)
              have HN : Hid (Rws w W5 L0) := Lib.hid HF2.out.tail
              refine hK.out _ _ HN (fun hH2 => ?_)
              clear hK K hHeld hb
              (try simp only [Act.put, List.getElem_toArray, List.getElem_cons_zero, List.getElem_cons_succ, List.setIfInBounds_toArray, List.set_cons_zero, List.set_cons_succ])
              have hz := st3b W5 pb HF2 HD
              rw [hF, hA] at hz
              simp only [puts, Act.put, List.getElem_toArray, List.getElem_cons_zero, List.getElem_cons_succ, List.setIfInBounds_toArray, List.set_cons_zero, List.set_cons_succ] at hz
              exact hz
            · go_simp
              obtain ⟨pa, hp⟩ : ∃ pa, pa = W.heap.size := ⟨_, rfl⟩
              (try rw [← hp])
              have HF2 : Hid (Rws w (W.alloc (.cells #[.int .i64 0, .int .i64 0, .int .i64 0, .int .i64 0, .int .i64 0, .int .i64 0, .int .i64 0, .int .i64 0] 35)) ((pa, 35, #[.int .i64 0, .int .i64 0, .int .i64 0, .int .i64 0, .int .i64 0, .int .i64 0, .int .i64 0, .int .i64 0]) :: ((pb, 35, #[.int .i64 0, .int .i64 0, .int .i64 0, .int .i64 0, .int .i64 0, .int .i64 0, .int .i64 0, .int .i64 0]) :: L0))) := Lib.hid (HF.out.alloc pa hp _ _)
              have HD2 : Hid ((∀ r ∈ L0, r.1 ≠ pa) ∧ w.heap.size ≤ pa ∧ (∀ r ∈ L0, r.1 ≠ pb) ∧ w.heap.size ≤ pb ∧ pa ≠ pb) := Lib.hid ⟨(fun q hq => Nat.ne_of_lt (by rw [hp]; exact HF.out.lt q (List.mem_cons_of_mem _ hq))), (by rw [hp]; exact HF.out.2.size), HD.out.1, HD.out.2, (Nat.ne_of_lt (by rw [hp]; exact HF.out.at0.lt)).symm⟩
              refine kHeld hK.out (W := W.alloc (.cells #[.int .i64 0, .int .i64 0, .int .i64 0, .int .i64 0, .int .i64 0, .int .i64 0, .int .i64 0, .int .i64 0] 35)) (Lib.hid HF2.out.tail.tail) (fun hH2 => ?_)
              clear hK K hHeld
              generalize W.alloc (.cells #[.int .i64 0, .int .i64 0, .int .i64 0, .int .i64 0, .int .i64 0, .int .i64 0, .int .i64 0, .int .i64 0] 35) = W5 at hH2 HF2 ⊢
              (try simp only [Act.put, List.getElem_toArray, List.getElem_cons_zero, List.getElem_cons_succ, List.setIfInBounds_toArray, List.set_cons_zero, List.set_cons_succ])
              have hz := st2ab W5 pa pb HF2 HD2
              rw [hF, hA] at hz
              simp only [puts, Act.put, List.getElem_toArray, List.getElem_cons_zero, List.getElem_cons_succ, List.setIfInBounds_toArray, List.set_cons_zero, List.set_cons_succ] at hz
              exact hz
          have st2 : ∀ (W : World), Hid (Rws w W L0) → Hid (True) → F 7 #[true, true, true, true, true, false, true, false, false, false, false, false, false] (A [(29, .pointer (some ⟨w.heap.size + 1, 0, none⟩)), (30, .int .i64 sec), (31, .int .i64 u), (35, .agg #[.int .i64 x, .int .i64 0]), (32, .agg #[.int .i64 u, .int .i64 0]), (33, .agg #[.slice none 0 0, .slice none 0 0, .slice none 0 0, .slice none 0 0])]) W := by
            intro W HF HD
            rw [hF, hA]
            simp only [puts, Act.put, List.getElem_toArray, List.getElem_cons_zero, List.getElem_cons_succ, List.setIfInBounds_toArray, List.set_cons_zero, List.set_cons_succ]
            have hHeld : Hid (Rws w W L0) := Lib.hid HF.out
            refine wpAnyH_ready (rs := [5, 9, 10]) (by kernel_rfl) (by simp) ?_
            refine (AllReadyH.cons rfl (fun K hK => ?_) (AllReadyH.cons rfl (fun K hK => ?_) (AllReadyH.cons rfl (fun K hK => ?_) AllReadyH.nil)))
            · go_simp
              go_at_call 15
              refine (HCA.out _).mono ?_
              rintro e W5 ⟨rfl, hb⟩
              have HF2 : Hid (Rws w W5 L0) := Lib.hid (HF.out.below hb)
              have HN : Hid (Rws w W5 L0) := Lib.hid HF2.out
              refine hK.out _ _ HN (fun hH2 => ?_)
              clear hK K hHeld hb
              (try simp only [Act.put, List.getElem_toArray, List.getElem_cons_zero, List.getElem_cons_succ, List.setIfInBounds_toArray, List.set_cons_zero, List.set_cons_succ])
              have hz := st3 W5 HF2 HD
              rw [hF, hA] at hz
              simp only [puts, Act.put, List.getElem_toArray, List.getElem_cons_zero, List.getElem_cons_succ, List.setIfInBounds_toArray, List.set_cons_zero, List.set_cons_succ] at hz
              exact hz
            · go_simp
              obtain ⟨pa, hp⟩ : ∃ pa, pa = W.heap.size := ⟨_, rfl⟩
              (try rw [← hp])
              have HF2 : Hid (Rws w (W.alloc (.cells #[.int .i64 0, .int .i64 0, .int .i64 0, .int .i64 0, .int .i64 0, .int .i64 0, .int .i64 0, .int .i64 0] 35)) ((pa, 35, #[.int .i64 0, .int .i64 0, .int .i64 0, .int .i64 0, .int .i64 0, .int .i64 0, .int .i64 0, .int .i64 0]) :: L0)) := Lib.hid (HF.out.alloc pa hp _ _)
              have HD2 : Hid ((∀ r ∈ L0, r.1 ≠ pa) ∧ w.heap.size ≤ pa) := Lib.hid ⟨(fun q hq => Nat.ne_of_lt (by rw [hp]; exact HF.out.lt q hq)), (by rw [hp]; exact HF.out.2.size)⟩
              refine kHeld hK.out (W := W.alloc (.cells #[.int .i64 0, .int .i64 0, .int .i64 0, .int .i64 0, .int .i64 0, .int .i64 0, .int .i64 0, .int .i64 0] 35)) (Lib.hid HF2.out.tail) (fun hH2 => ?_)
              clear hK K hHeld
              generalize W.alloc (.cells #[.int .i64 0, .int .i64 0, .int .i64 0, .int .i64 0, .int .i64 0, .int .i64 0, .int .i64 0, .int .i64 0] 35) = W5 at hH2 HF2 ⊢
              (try simp only [Act.put, List.getElem_toArray, List.getElem_cons_zero, List.getElem_cons_succ, List.setIfInBounds_toArray, List.set_cons_zero, List.set_cons_succ])
              have hz := st2a W5 pa HF2 HD2
              rw [hF, hA] at hz
              simp only [puts, Act.put, List.getElem_toArray, List.getElem_cons_zero, List.getElem_cons_succ, List.setIfInBounds_toArray, List.set_cons_zero, List.set_cons_succ] at hz
              exact hz
            · go_simp
              obtain ⟨pb, hp⟩ : ∃ pb, pb = W.heap.size := ⟨_, rfl⟩
              (try rw [← hp])
              have HF2 : Hid (Rws w (W.alloc (.cells #[.int .i64 0, .int .i64 0, .int .i64 0, .int .i64 0, .int .i64 0, .int .i64 0, .int .i64 0, .int .i64 0] 35)) ((pb, 35, #[.int .i64 0, .int .i64 0, .int .i64 0, .int .i64 0, .int .i64 0, .int .i64 0, .int .i64 0, .int .i64 0]) :: L0)) := Lib.hid (HF.out.alloc pb hp _ _)
              have HD2 : Hid ((∀ r ∈ L0, r.1 ≠ pb) ∧ w.heap.size ≤ pb) := Lib.hid ⟨(fun q hq => Nat.ne_of_lt (by rw [hp]; exact HF.out.lt q hq)), (by rw [hp]; exact HF.out.2.size)⟩
              refine kHeld hK.out (W := W.alloc (.cells #[.int .i64 0, .int .i64 0, .int .i64 0, .int .i64 0, .int .i64 0, .int .i64 0, .int .i64 0, .int .i64 0] 35)) (Lib.hid HF2.out.tail) (fun hH2 => ?_)
              clear hK K hHeld
              generalize W.alloc (.cells #[.int .i64 0, .int .i64 0, .int .i64 0, .int .i64 0, .int .i64 0, .int .i64 0, .int .i64 0, .int .i64 0] 35) = W5 at hH2 HF2 ⊢
              (try simp only [Act.put, List.getElem_toArray, List.getElem_cons_zero, List.getElem_cons_succ, List.setIfInBounds_toArray, List.set_cons_zero, List.set_cons_succ])
              have hz := st2b W5 pb HF2 HD2
              rw [hF, hA] at hz
              simp only [puts, Act.put, List.getElem_toArray, List.getElem_cons_zero, List.getElem_cons_succ, List.setIfInBounds_toArray, List.set_cons_zero, List.set_cons_succ] at hz
              exact hz
          have st1ab : ∀ (W : World) (pa : Nat) (pb : Nat), Hid (Rws w W ((pa, 35, #[.int .i64 0, .int .i64 0, .int .i64 0, .int .i64 0, .int .i64 0, .int .i64 0, .int .i64 0, .int .i64 0]) :: ((pb, 35, #[.int .i64 0, .int .i64 0, .int .i64 0, .int .i64 0, .int .i64 0, .int .i64 0, .int .i64 0, .int .i64 0]) :: L0))) → Hid ((∀ r ∈ L0, r.1 ≠ pa) ∧ w.heap.size ≤ pa ∧ (∀ r ∈ L0, r.1 ≠ pb) ∧ w.heap.size ≤ pb ∧ pa ≠ pb) → F 6 #[true, true, true, true, false, false, true, false, false, true, true, false, false] (A [(29, .pointer (some ⟨w.heap.size + 1, 0, none⟩)), (30, .int .i64 sec), (31, .int .i64 u), (35, .agg #[.int .i64 x, .int .i64 0]), (32, .agg #[.int .i64 u, .int .i64 0]), (7, .pointer (some ⟨pa, 0, none⟩)), (8, .pointer (some ⟨pb, 0, none⟩))]) W := by
            intro W pa pb HF HD
            rw [hF, hA]
            simp only [puts, Act.put, List.getElem_toArray, List.getElem_cons_zero, List.getElem_cons_succ, List.setIfInBounds_toArray, List.set_cons_zero, List.set_cons_succ]
            have hHeld : Hid (Rws w W L0) := Lib.hid HF.out.tail.tail
            refine wpAnyH_ready (rs := [4]) (by kernel_rfl) (by simp) ?_
            refine (AllReadyH.cons rfl (fun K hK => ?_) AllReadyH.nil)
            go_simp
            go_at_call 19
            refine (cronUTC_any _).mono ?_
            rintro e W5 ⟨rfl, hb⟩
            have HF2 : Hid (Rws w W5 ((pa, 35, #[.int .i64 0, .int .i64 0, .int .i64 0, .int .i64 0, .int .i64 0, .int .i64 0, .int .i64 0, .int .i64 0]) :: ((pb, 35, #[.int .i64 0, .int .i64 0, .int .i64 0, .int .i64 0, .int .i64 0, .int .i64 0, .int .i64 0, .int .i64 0]) :: L0))) := Lib.hid (HF.out.below hb)
            have HN : Hid (Rws w W5 L0) := Lib.hid HF2.out.tail.tail
            refine hK.out _ _ HN (fun hH2 => ?_)
            clear hK K hHeld hb
            (try simp only [Act.put, List.getElem_toArray, List.getElem_cons_zero, List.getElem_cons_succ, List.setIfInBounds_toArray, List.set_cons_zero, List.set_cons_succ])
            have hz := st2ab W5 pa pb HF2 HD
            rw [hF, hA] at hz
            simp only [puts, Act.put, List.getElem_toArray, List.getElem_cons_zero, List.getElem_cons_succ, List.setIfInBounds_toArray, List.set_cons_zero, List.set_cons_succ] at hz
            exact hz
          have st1a : ∀ (W : World) (pa : Nat), Hid (Rws w W ((pa, 35, #[.int .i64 0, .int .i64 0, .int .i64 0, .int .i64 0, .int .i64 0, .int .i64 0, .int .i64 0, .int .i64 0]) :: L0)) → Hid ((∀ r ∈ L0, r.1 ≠ pa) ∧ w.heap.size ≤ pa) → F 7 #[true, true, true, true, false, false, true, false, false, true, false, false, false] (A [(29, .pointer (some ⟨w.heap.size + 1, 0, none⟩)), (30, .int .i64 sec), (31, .int .i64 u), (35, .agg #[.int .i64 x, .int .i64 0]), (32, .agg #[.int .i64 u, .int .i64 0]), (7, .pointer (some ⟨pa, 0, none⟩))]) W := by
            intro W pa HF HD
            rw [hF, hA]
            simp only [puts, Act.put, List.getElem_toArray, List.getElem_cons_zero, List.getElem_cons_succ, List.setIfInBounds_toArray, List.set_cons_zero, List.set_cons_succ]
            have hHeld : Hid (Rws w W L0) := Lib.hid HF.out.tail
            refine wpAnyH_ready (rs := [4, 10]) (by kernel_rfl) (by simp) ?_
            refine (AllReadyH.cons rfl (fun K hK => ?_) (AllReadyH.cons rfl (fun K hK => ?_) AllReadyH.nil))
            · go_simp
              go_at_call 19
              refine (cronUTC_any _).mono ?_
              rintro e W5 ⟨rfl, hb⟩
              have HF2 : Hid (Rws w W5 ((pa, 35, #[.int .i64 0, .int .i64 0, .int .i64 0, .int .i64 0, .int .i64 0, .int .i64 0, .int .i64 0, .int .i64 0]) :: L0)) := Lib.hid (HF.out.below hb)
              have HN : Hid (Rws w W5 L0) := Lib.hid HF2.out.tail
              refine hK.out _ _ HN (fun hH2 => ?_)
              clear hK K hHeld hb
              (try simp only [Act.put, List.getElem_toArray, List.getElem_cons_zero, List.getElem_cons_succ, List.setIfInBounds_toArray, List.set_cons_zero, List.set_cons_succ])
              have hz := st2a W5 pa HF2 HD
              rw [hF, hA] at hz
              simp only [puts, Act.put, List.getElem_toArray, List.getElem_cons_zero, List.getElem_cons_succ, List.setIfInBounds_toArray, List.set_cons_zero, List.set_cons_succ] at hz
              exact hz
            · go_simp
              obtain ⟨pb, hp⟩ : ∃ pb, pb = W.heap.size := ⟨_, rfl⟩
              (try rw [← hp])
              have HF2 : Hid (Rws w (W.alloc (.cells #[.int .i64 0, .int .i64 0, .int .i64 0, .int .i64 0, .int .i64 0, .int .i64 0, .int .i64 0, .int .i64 0] 35)) ((pb, 35, #[.int .i64 0, .int .i64 0, .int .i64 0, .int .i64 0, .int .i64 0, .int .i64 0, .int .i64 0, .int .i64 0]) :: ((pa, 35, #[.int .i64 0, .int .i64 0, .int .i64 0, .int .i64 0, .int .i64 0, .int .i64 0, .int .i64 0, .int .i64 0]) :: L0))) := Lib.hid (HF.out.alloc pb hp _ _)
              have HD2 : Hid ((∀ r ∈ L0, r.1 ≠ pa) ∧ w.heap.size ≤ pa ∧ (∀ r ∈ L0, r.1 ≠ pb) ∧ w.heap.size ≤ pb ∧ pa ≠ pb) := Lib.hid ⟨HD.out.1, HD.out.2, (fun q hq => Nat.ne_of_lt (by rw [hp]; exact HF.out.lt q (List.mem_cons_of_mem _ hq))), (by rw [hp]; exact HF.out.2.size), Nat.ne_of_lt (by rw [hp]; exact HF.out.at0.lt)⟩
              refine kHeld hK.out (W := W.alloc (.cells #[.int .i64 0, .int .i64 0, .int .i64 0, .int .i64 0, .int .i64 0, .int .i64 0, .int .i64 0, .int .i64 0] 35)) (Lib.hid HF2.out.tail.tail) (fun hH2 => ?_)
              clear hK K hHeld
              generalize W.alloc (.cells #[.int .i64 0, .int .i64 0, .int .i64 0, .int .i64 0, .int .i64 0, .int .i64 0, .int .i64 0, .int .i64 0] 35) = W5 at hH2 HF2 ⊢
              (try simp only [Act.put, List.getElem_toArray, List.getElem_cons_zero, List.getElem_cons_succ, List.setIfInBounds_toArray, List.set_cons_zero, List.set_cons_succ])
              have hz := st1ab W5 pa pb (Lib.hid HF2.out.swap) HD2
              rw [hF, hA] at hz
              simp only [puts, Act.put, List.getElem_toArray, List.getElem_cons_zero, List.getElem_cons_succ, List.setIfInBounds_toArray, List.set_cons_zero, List.set_cons_succ] at hz
              exact hz
          have st1b : ∀ (W : World) (pb : Nat), Hid (Rws w W ((pb, 35, #[.int .i64 0, .int .i64 0, .int .i64 0, .int .i64 0, .int .i64 0, .int .i64 0, .int .i64 0, .int .i64 0]) :: L0)) → Hid ((∀ r ∈ L0, r.1 ≠ pb) ∧ w.heap.size ≤ pb) → F 7 #[true, true, true, true, false, false, true, false, false, false, true, false, false] (A [(29, .pointer (some ⟨w.heap.size + 1, 0, none⟩)), (30, .int .i64 sec), (31, .int .i64 u), (35, .agg #[.int .i64 x, .int .i64 0]), (32, .agg #[.int .i64 u, .int .i64 0]), (8, .pointer (some ⟨pb, 0, none⟩))]) W := by
            intro W pb HF HD
            rw [hF, hA]
            simp only [puts, Act.put, List.getElem_toArray, List.getElem_cons_zero, List.getElem_cons_succ, List.setIfInBounds_toArray, List.set_cons_zero, List.set_cons_succ]
            have hHeld : Hid (Rws w W L0) := Lib.hid HF.out.tail
            refine wpAnyH_ready (rs := [4, 9]) (by kernel_rfl) (by simp) ?_
            refine (AllReadyH.cons rfl (fun K hK => ?_) (AllReadyH.cons rfl (fun K hK => ?_) AllReadyH.nil))
            · go_simp
              go_at_call 19
              refine (cronUTC_any _).mono ?_
              rintro e W5 ⟨rfl, hb⟩
              have HF2 : Hid (Rws w W5 ((pb, 35, #[.int .i64 0, .int .i64 0, .int .i64 0, .int .i64 0, .int .i64 0, .int .i64 0, .int .i64 0, .int .i64 0]) :: L0)) := Lib.hid (HF.out.below hb)
              have HN : Hid (Rws w W5 L0) := Lib.hid HF2.out.tail
              refine hK.out _ _ HN (fun hH2 => ?_)
              clear hK K hHeld hb
              (try simp only [Act.put, List.getElem_toArray, List.getElem_cons_zero, List.getElem_cons_succ, List.setIfInBounds_toArray, List.set_cons_zero, List.set_cons_succ])
              have hz := st2b W5 pb HF2 HD
              rw [hF, hA] at hz
              simp only [puts, Act.put, List.getElem_toArray, List.getElem_cons_zero, List.getElem_cons_succ, List.setIfInBounds_toArray, List.set_cons_zero, List.set_cons_succ] at hz
              exact hz
            · go_simp
              obtain ⟨pa, hp⟩ : ∃ pa, pa = W.heap.size := ⟨_, rfl⟩
              (try rw [← hp])
              have HF2 : Hid (Rws w (W.alloc (.cells #[.int .i64 0, .int .i64 0, .int .i64 0, .int .i64 0, .int .i64 0, .int .i64 0, .int .i64 0, .int .i64 0] 35)) ((pa, 35, #[.int .i64 0, .int .i64 0, .int .i64 0, .int .i64 0, .int .i64 0, .int .i64 0, .int .i64 0, .int .i64 0]) :: ((pb, 35, #[.int .i64 0, .int .i64 0, .int .i64 0, .int .i64 0, .int .i64 0, .int .i64 0, .int .i64 0, .int .i64 0]) :: L0))) := Lib.hid (HF.out.alloc pa hp _ _)
              have HD2 : Hid ((∀ r ∈ L0, r.1 ≠ pa) ∧ w.heap.size ≤ pa ∧ (∀ r ∈ L0, r.1 ≠ pb) ∧ w.heap.size ≤ pb ∧ pa ≠ pb) := Lib.hid ⟨(fun q hq => Nat.ne_of_lt (by rw [hp]; exact HF.out.lt q (List.mem_cons_of_mem _ hq))), (by rw [hp]; exact HF.out.2.size), HD.out.1, HD.out.2, (Nat.ne_of_lt (by rw [hp]; exact HF.out.at0.lt)).symm⟩
              refine kHeld hK.out (W := W.alloc (.cells #[.int .i64 0, .int .i64 0, .int .i64 0, .int .i64 0, .int .i64 0, .int .i64 0, .int .i64 0, .int .i64 0] 35)) (Lib.hid HF2.out.tail.tail) (fun hH2 => ?_)
              clear hK K hHeld
              generalize W.alloc (.cells #[.int .i64 0, .int .i64 0, .int .i64 0, .int .i64 0, .int .i64 0, .int .i64 0, .int .i64 0, .int .i64 0] 35) = W5 at hH2 HF2 ⊢
              (try simp only [Act.put, List.getElem_toArray, List.getElem_cons_zero, List.getElem_cons_succ, List.setIfInBounds_toArray, List.set_cons_zero, List.set_cons_succ])
              have hz := st1ab W5 pa pb HF2 HD2
              rw [hF, hA] at hz
              simp only [puts, Act.put, List.getElem_toArray, List.getElem_cons_zero, List.getElem_cons_succ, List.setIfInBounds_toArray, List.set_cons_zero, List.set_cons_succ] at hz
              exact hz
          have st1 : ∀ (W : World), Hid (Rws w W L0) → Hid (True) → F 8 #[true, true, true, true, false, false, true, false, false, false, false, false, false] (A [(29, .pointer (some ⟨w.heap.size + 1, 0, none⟩)), (30, .int .i64 sec), (31, .int .i64 u), (35, .agg #[.int .i64 x, .int .i64 0]), (32, .agg #[.int .i64 u, .int .i64 0])]) W := by
            intro W HF HD
            rw [hF, hA]
            simp only [puts, Act.put, List.getElem_toArray, List.getElem_cons_zero, List.getElem_cons_succ, List.setIfInBounds_toArray, List.set_cons_zero, List.set_cons_succ]
            have hHeld : Hid (Rws w W L0) := Lib.hid HF.out
            refine wpAnyH_ready (rs := [4, 9, 10]) (by kernel_rfl) (by simp) ?_
            refine (AllReadyH.cons rfl (fun K hK => ?_) (AllReadyH.cons rfl (fun K hK => ?_) (AllReadyH.cons rfl (fun K hK => ?_) AllReadyH.nil)))
            · go_simp
              go_at_call 19
              refine (cronUTC_any _).mono ?_
              rintro e W5 ⟨rfl, hb⟩
              have HF2 : Hid (Rws w W5 L0) := Lib.hid (HF.out.below hb)
              have HN : Hid (Rws w W5 L0) := Lib.hid HF2.out
              refine hK.out _ _ HN (fun hH2 => ?_)
              clear hK K hHeld hb
              (try simp only [Act.put, List.getElem_toArray, List.getElem_cons_zero, List.getElem_cons_succ, List.setIfInBounds_toArray, List.set_cons_zero, List.set_cons_succ])
              have hz := st2 W5 HF2 HD
              rw [hF, hA] at hz
              simp only [puts, Act.put, List.getElem_toArray, List.getElem_cons_zero, List.getElem_cons_succ, List.setIfInBounds_toArray, List.set_cons_zero, List.set_cons_succ] at hz
              exact hz
            · go_simp
              obtain ⟨pa, hp⟩ : ∃ pa, pa = W.heap.size := ⟨_, rfl⟩
              (try rw [← hp])
              have HF2 : Hid (Rws w (W.alloc (.cells #[.int .i64 0, .int .i64 0, .int .i64 0, .int .i64 0, .int .i64 0, .int .i64 0, .int .i64 0, .int .i64 0] 35)) ((pa, 35, #[.int .i64 0, .int .i64 0, .int .i64 0, .int .i64 0, .int .i64 0, .int .i64 0, .int .i64 0, .int .i64 0]) :: L0)) := Lib.hid (HF.out.alloc pa hp _ _)
              have HD2 : Hid ((∀ r ∈ L0, r.1 ≠ pa) ∧ w.heap.size ≤ pa) := Lib.hid ⟨(fun q hq => Nat.ne_of_lt (by rw [hp]; exact HF.out.lt q hq)), (by rw [hp]; exact HF.out.2.size)⟩
              refine kHeld hK.out (W := W.alloc (.cells #[.int .i64 0, .int .i64 0, .int .i64 0, .int .i64 0, .int .i64 0, .int .i64 0, .int .i64 0, .int .i64 0] 35)) (Lib.hid HF2.out.tail) (fun hH2 => ?_)
              clear hK K hHeld
              generalize W.alloc (.cells #[.int .i64 0, .int .i64 0, .int .i64 0, .int .i64 0, .int .i64 0, .int .i64 0, .int .i64 0, .int .i64 0] 35) = W5 at hH2 HF2 ⊢
              (try simp only [Act.put, List.getElem_toArray, List.getElem_cons_zero, List.getElem_cons_succ, List.setIfInBounds_toArray, List.set_cons_zero, List.set_cons_succ])
              have hz := st1a W5 pa HF2 HD2
              rw [hF, hA] at hz
              simp only [puts, Act.put, List.getElem_toArray, List.getElem_cons_zero, List.getElem_cons_succ, List.setIfInBounds_toArray, List.set_cons_zero, List.set_cons_succ] at hz
              exact hz
            · go_simp
              obtain ⟨pb, hp⟩ : ∃ pb, pb = W.heap.size := ⟨_, rfl⟩
              (try rw [← hp])
              have HF2 : Hid (Rws w (W.alloc (.cells #[.int .i64 0, .int .i64 0, .int .i64 0, .int .i64 0, .int .i64 0, .int .i64 0, .int .i64 0, .int .i64 0] 35)) ((pb, 35, #[.int .i64 0, .int .i64 0, .int .i64 0, .int .i64 0, .int .i64 0, .int .i64 0, .int .i64 0, .int .i64 0]) :: L0)) := Lib.hid (HF.out.alloc pb hp _ _)
              have HD2 : Hid ((∀ r ∈ L0, r.1 ≠ pb) ∧ w.heap.size ≤ pb) := Lib.hid ⟨(fun q hq => Nat.ne_of_lt (by rw [hp]; exact HF.out.lt q hq)), (by rw [hp]; exact HF.out.2.size)⟩
              refine kHeld hK.out (W := W.alloc (.cells #[.int .i64 0, .int .i64 0, .int .i64 0, .int .i64 0, .int .i64 0, .int .i64 0, .int .i64 0, .int .i64 0] 35)) (Lib.hid HF2.out.tail) (fun hH2 => ?_)
              clear hK K hHeld
              generalize W.alloc (.cells #[.int .i64 0, .int .i64 0, .int .i64 0, .int .i64 0, .int .i64 0, .int .i64 0, .int .i64 0, .int .i64 0] 35) = W5 at hH2 HF2 ⊢
              (try simp only [Act.put, List.getElem_toArray, List.getElem_cons_zero, List.getElem_cons_succ, List.setIfInBounds_toArray, List.set_cons_zero, List.set_cons_succ])
              have hz := st1b W5 pb HF2 HD2
              rw [hF, hA] at hz
              simp only [puts, Act.put, List.getElem_toArray, List.getElem_cons_zero, List.getElem_cons_succ, List.setIfInBounds_toArray, List.set_cons_zero, List.set_cons_succ] at hz
              exact hz
          have st0ab : ∀ (W : World) (pa : Nat) (pb : Nat), Hid (Rws w W ((pa, 35, #[.int .i64 0, .int .i64 0, .int .i64 0, .int .i64 0, .int .i64 0, .int .i64 0, .int .i64 0, .int .i64 0]) :: ((pb, 35, #[.int .i64 0, .int .i64 0, .int .i64 0, .int .i64 0, .int .i64 0, .int .i64 0, .int .i64 0, .int .i64 0]) :: L0))) → Hid ((∀ r ∈ L0, r.1 ≠ pa) ∧ w.heap.size ≤ pa ∧ (∀ r ∈ L0, r.1 ≠ pb) ∧ w.heap.size ≤ pb ∧ pa ≠ pb) → F 7 #[true, true, true, false, false, false, true, false, false, true, true, false, false] (A [(29, .pointer (some ⟨w.heap.size + 1, 0, none⟩)), (30, .int .i64 sec), (31, .int .i64 u), (35, .agg #[.int .i64 x, .int .i64 0]), (7, .pointer (some ⟨pa, 0, none⟩)), (8, .pointer (some ⟨pb, 0, none⟩))]) W := by
            intro W pa pb HF HD
            rw [hF, hA]
            simp only [puts, Act.put, List.getElem_toArray, List.getElem_cons_zero, List.getElem_cons_succ, List.setIfInBounds_toArray, List.set_cons_zero, List.set_cons_succ]
            have hHeld : Hid (Rws w W L0) := Lib.hid HF.out.tail.tail
            refine wpAnyH_ready (rs := [3]) (by kernel_rfl) (by simp) ?_
            refine (AllReadyH.cons rfl (fun K hK => ?_) AllReadyH.nil)
            go_simp
            go_at_call 22
            refine (whole_any u _).mono ?_
            rintro e W5 ⟨rfl, hb⟩
            have HF2 : Hid (Rws w W5 ((pa, 35, #[.int .i64 0, .int .i64 0, .int .i64 0, .int .i64 0, .int .i64 0, .int .i64 0, .int .i64 0, .int .i64 0]) :: ((pb, 35, #[.int .i64 0, .int .i64 0, .int .i64 0, .int .i64 0, .int .i64 0, .int .i64 0, .int .i64 0, .int .i64 0]) :: L0))) := Lib.hid (HF.out.below hb)
            have HN : Hid (Rws w W5 L0) := Lib.hid HF2.out.tail.tail
            refine hK.out _ _ HN (fun hH2 => ?_)
            clear hK K hHeld hb
            (try simp only [Act.put, List.getElem_toArray, List.getElem_cons_zero, List.getElem_cons_succ, List.setIfInBounds_toArray, List.set_cons_zero, List.set_cons_succ])
            have hz := st1ab W5 pa pb HF2 HD
            rw [hF, hA] at hz
            simp only [puts, Act.put, List.getElem_toArray, List.getElem_cons_zero, List.getElem_cons_succ, List.setIfInBounds_toArray, List.set_cons_zero, List.set_cons_succ] at hz
            exact hz
          have st0a : ∀ (W : World) (pa : Nat), Hid (Rws w W ((pa, 35, #[.int .i64 0, .int .i64 0, .int .i64 0, .int .i64 0, .int .i64 0, .int .i64 0, .int .i64 0, .int .i64 0]) :: L0)) → Hid ((∀ r ∈ L0, r.1 ≠ pa) ∧ w.heap.size ≤ pa) → F 8 #[true, true, true, false, false, false, true, false, false, true, false, false, false] (A [(29, .pointer (some ⟨w.heap.size + 1, 0, none⟩)), (30, .int .i64 sec), (31, .int .i64 u), (35, .agg #[.int .i64 x, .int .i64 0]), (7, .pointer (some ⟨pa, 0, none⟩))]) W := by
            intro W pa HF HD
            rw [hF, hA]
            simp only [puts, Act.put, List.getElem_toArray, List.getElem_cons_zero, List.getElem_cons_succ, List.setIfInBounds_toArray, List.set_cons_zero, List.set_cons_succ]
            have hHeld : Hid (Rws w W L0) := Lib.hid HF.out.tail
            refine wpAnyH_ready (rs := [3, 10]) (by kernel_rfl) (by simp) ?_
            refine (AllReadyH.cons rfl (fun K hK => ?_) (AllReadyH.cons rfl (fun K hK => ?_) AllReadyH.nil))
            · go_simp
              go_at_call 22
              refine (whole_any u _).mono ?_
              rintro e W5 ⟨rfl, hb⟩
              have HF2 : Hid (Rws w W5 ((pa, 35, #[.int .i64 0, .int .i64 0, .int .i64 0, .int .i64 0, .int .i64 0, .int .i64 0, .int .i64 0, .int .i64 0]) :: L0)) := Lib.hid (HF.out.below hb)
              have HN : Hid (Rws w W5 L0) := Lib.hid HF2.out.tail
              refine hK.out _ _ HN (fun hH2 => ?_)
              clear hK K hHeld hb
              (try simp only [Act.put, List.getElem_toArray, List.getElem_cons_zero, List.getElem_cons_succ, List.setIfInBounds_toArray, List.set_cons_zero, List.set_cons_succ])
              have hz := st1a W5 pa HF2 HD
              rw [hF, hA] at hz
              simp only [puts, Act.put, List.getElem_toArray, List.getElem_cons_zero, List.getElem_cons_succ, List.setIfInBounds_toArray, List.set_cons_zero, List.set_cons_succ] at hz
              exact hz
            · go_simp
              obtain ⟨pb, hp⟩ : ∃ pb, pb = W.heap.size := ⟨_, rfl⟩
              (try rw [← hp])
              have HF2 : Hid (Rws w (W.alloc (.cells #[.int .i64 0, .int .i64 0, .int .i64 0, .int .i64 0, .int .i64 0, .int .i64 0, .int .i64 0, .int .i64 0] 35)) ((pb, 35, #[.int .i64 0, .int .i64 0, .int .i64 0, .int .i64 0, .int .i64 0, .int .i64 0, .int .i64 0, .int .i64 0]) :: ((pa, 35, #[.int .i64 0, .int .i64 0, .int .i64 0, .int .i64 0, .int .i64 0, .int .i64 0, .int .i64 0, .int .i64 0]) :: L0))) := Lib.hid (HF.out.alloc pb hp _ _)
              have HD2 : Hid ((∀ r ∈ L0, r.1 ≠ pa) ∧ w.heap.size ≤ pa ∧ (∀ r ∈ L0, r.1 ≠ pb) ∧ w.heap.size ≤ pb ∧ pa ≠ pb) := Lib.hid ⟨HD.out.1, HD.out.2, (fun q hq => Nat.ne_of_lt (by rw [hp]; exact HF.out.lt q (List.mem_cons_of_mem _ hq))), (by rw [hp]; exact HF.out.2.size), Nat.ne_of_lt (by rw [hp]; exact HF.out.at0.lt)⟩
              refine kHeld hK.out (W := W.alloc (.cells #[.int .i64 0, .int .i64 0, .int .i64 0, .int .i64 0, .int .i64 0, .int .i64 0, .int .i64 0, .int .i64 0] 35)) (Lib.hid HF2.out.tail.tail) (fun hH2 => ?_)
              clear hK K hHeld
              generalize W.alloc (.cells #[.int .i64 0, .int .i64 0, .int .i64 0, .int .i64 0, .int .i64 0, .int .i64 0, .int .i64 0, .int .i64 0] 35) = W5 at hH2 HF2 ⊢
              (try simp only [Act.put, List.getElem_toArray, List.getElem_cons_zero, List.getElem_cons_succ, List.setIfInBounds_toArray, List.set_cons_zero, List.set_cons_succ])
              have hz := st0ab W5 pa pb (Lib.hid HF2.out.swap) HD2
              rw [hF, hA] at hz
              simp only [puts, Act.put, List.getElem_toArray, List.getElem_cons_zero, List.getElem_cons_succ, List.setIfInBounds_toArray, List.set_cons_zero, List.set_cons_succ] at hz
              exact hz
          have st0b : ∀ (W : World) (pb : Nat), Hid (Rws w W ((pb, 35, #[.int .i64 0, .int .i64 0, .int .i64 0, .int .i64 0, .int .i64 0, .int .i64 0, .int .i64 0, .int .i64 0]) :: L0)) → Hid ((∀ r ∈ L0, r.1 ≠ pb) ∧ w.heap.size ≤ pb) → F 8 #[true, true, true, false, false, false, true, false, false, false, true, false, false] (A [(29, .pointer (some ⟨w.heap.size + 1, 0, none⟩)), (30, .int .i64 sec), (31, .int .i64 u), (35, .agg #[.int .i64 x, .int .i64 0]), (8, .pointer (some ⟨pb, 0, none⟩))]) W := by
            intro W pb HF HD
            rw [hF, hA]
            simp only [puts, Act.put, List.getElem_toArray, List.getElem_cons_zero, List.getElem_cons_succ, List.setIfInBounds_toArray, List.set_cons_zero, List.set_cons_succ]
            have hHeld : Hid (Rws w W L0) := Lib.hid HF.out.tail
            refine wpAnyH_ready (rs := [3, 9]) (by kernel_rfl) (by simp) ?_
            refine (AllReadyH.cons rfl (fun K hK => ?_) (AllReadyH.cons rfl (fun K hK => ?_) AllReadyH.nil))
            · go_simp
              go_at_call 22
              refine (whole_any u _).mono ?_
              rintro e W5 ⟨rfl, hb⟩
              have HF2 : Hid (Rws w W5 ((pb, 35, #[.int .i64 0, .int .i64 0, .int .i64 0, .int .i64 0, .int .i64 0, .int .i64 0, .int .i64 0, .int .i64 0]) :: L0)) := Lib.hid (HF.out.below hb)
              have HN : Hid (Rws w W5 L0) := Lib.hid HF2.out.tail
              refine hK.out _ _ HN (fun hH2 => ?_)
              clear hK K hHeld hb
              (try simp only [Act.put, List.getElem_toArray, List.getElem_cons_zero, List.getElem_cons_succ, List.setIfInBounds_toArray, List.set_cons_zero, List.set_cons_succ])
              have hz := st1b W5 pb HF2 HD
              rw [hF, hA] at hz
              simp only [puts, Act.put, List.getElem_toArray, List.getElem_cons_zero, List.getElem_cons_succ, List.setIfInBounds_toArray, List.set_cons_zero, List.set_cons_succ] at hz
              exact hz
            · go_simp
              obtain ⟨pa, hp⟩ : ∃ pa, pa = W.heap.size := ⟨_, rfl⟩
              (try rw [← hp])
              have HF2 : Hid (Rws w (W.alloc (.cells #[.int .i64 0, .int .i64 0, .int .i64 0, .int .i64 0, .int .i64 0, .int .i64 0, .int .i64 0, .int .i64 0] 35)) ((pa, 35, #[.int .i64 0, .int .i64 0, .int .i64 0, .int .i64 0, .int .i64 0, .int .i64 0, .int .i64 0, .int .i64 0]) :: ((pb, 35, #[.int .i64 0, .int .i64 0, .int .i64 0, .int .i64 0, .int .i64 0, .int .i64 0, .int .i64 0, .int .i64 0]) :: L0))) := Lib.hid (HF.out.alloc pa hp _ _)
              have HD2 : Hid ((∀ r ∈ L0, r.1 ≠ pa) ∧ w.heap.size ≤ pa ∧ (∀ r ∈ L0, r.1 ≠ pb) ∧ w.heap.size ≤ pb ∧ pa ≠ pb) := Lib.hid ⟨(fun q hq => Nat.ne_of_lt (by rw [hp]; exact HF.out.lt q (List.mem_cons_of_mem _ hq))), (by rw [hp]; exact HF.out.2.size), HD.out.1, HD.out.2, (Nat.ne_of_lt (by rw [hp]; exact HF.out.at0.lt)).symm⟩
              refine kHeld hK.out (W := W.alloc (.cells #[.int .i64 0, .int .i64 0, .int .i64 0, .int .i64 0, .int .i64 0, .int .i64 0, .int .i64 0, .int .i64 0] 35)) (Lib.hid HF2.out.tail.tail) (fun hH2 => ?_)
              clear hK K hHeld
              generalize W.alloc (.cells #[.int .i64 0, .int .i64 0, .int .i64 0, .int .i64 0, .int .i64 0, .int .i64 0, .int .i64 0, .int .i64 0] 35) = W5 at hH2 HF2 ⊢
              (try simp only [Act.put, List.getElem_toArray, List.getElem_cons_zero, List.getElem_cons_succ, List.setIfInBounds_toArray, List.set_cons_zero, List.set_cons_succ])
              have hz := st0ab W5 pa pb HF2 HD2
              rw [hF, hA] at hz
              simp only [puts, Act.put, List.getElem_toArray, List.getElem_cons_zero, List.getElem_cons_succ, List.setIfInBounds_toArray, List.set_cons_zero, List.set_cons_succ] at hz
              exact hz
          have st0 : ∀ (W : World), Hid (Rws w W L0) → Hid (True) → F 9 #[true, true, true, false, false, false, true, false, false, false, false, false, false] (A [(29, .pointer (some ⟨w.heap.size + 1, 0, none⟩)), (30, .int .i64 sec), (31, .int .i64 u), (35, .agg #[.int .i64 x, .int .i64 0])]) W := by
            intro W HF HD
            rw [hF, hA]
            simp only [puts, Act.put, List.getElem_toArray, List.getElem_cons_zero, List.getElem_cons_succ, List.setIfInBounds_toArray, List.set_cons_zero, List.set_cons_succ]
            have hHeld : Hid (Rws w W L0) := Lib.hid HF.out
            refine wpAnyH_ready (rs := [3, 9, 10]) (by kernel_rfl) (by simp) ?_
            refine (AllReadyH.cons rfl (fun K hK => ?_) (AllReadyH.cons rfl (fun K hK => ?_) (AllReadyH.cons rfl (fun K hK => ?_) AllReadyH.nil)))
            · go_simp
              go_at_call 22
              refine (whole_any u _).mono ?_
              rintro e W5 ⟨rfl, hb⟩
              have HF2 : Hid (Rws w W5 L0) := Lib.hid (HF.out.below hb)
              have HN : Hid (Rws w W5 L0) := Lib.hid HF2.out
              refine hK.out _ _ HN (fun hH2 => ?_)
              clear hK K hHeld hb
              (try simp only [Act.put, List.getElem_toArray, List.getElem_cons_zero, List.getElem_cons_succ, List.setIfInBounds_toArray, List.set_cons_zero, List.set_cons_succ])
              have hz := st1 W5 HF2 HD
              rw [hF, hA] at hz
              simp only [puts, Act.put, List.getElem_toArray, List.getElem_cons_zero, List.getElem_cons_succ, List.setIfInBounds_toArray, List.set_cons_zero, List.set_cons_succ] at hz
              exact hz
            · go_simp
              obtain ⟨pa, hp⟩ : ∃ pa, pa = W.heap.size := ⟨_, rfl⟩
              (try rw [← hp])
              have HF2 : Hid (Rws w (W.alloc (.cells #[.int .i64 0, .int .i64 0, .int .i64 0, .int .i64 0, .int .i64 0, .int .i64 0, .int .i64 0, .int .i64 0] 35)) ((pa, 35, #[.int .i64 0, .int .i64 0, .int .i64 0, .int .i64 0, .int .i64 0, .int .i64 0, .int .i64 0, .int .i64 0]) :: L0)) := Lib.hid (HF.out.alloc pa hp _ _)
              have HD2 : Hid ((∀ r ∈ L0, r.1 ≠ pa) ∧ w.heap.size ≤ pa) := Lib.hid ⟨(fun q hq => Nat.ne_of_lt (by rw [hp]; exact HF.out.lt q hq)), (by rw [hp]; exact HF.out.2.size)⟩
              refine kHeld hK.out (W := W.alloc (.cells #[.int .i64 0, .int .i64 0, .int .i64 0, .int .i64 0, .int .i64 0, .int .i64 0, .int .i64 0, .int .i64 0] 35)) (Lib.hid HF2.out.tail) (fun hH2 => ?_)
              clear hK K hHeld
              generalize W.alloc (.cells #[.int .i64 0, .int .i64 0, .int .i64 0, .int .i64 0, .int .i64 0, .int .i64 0, .int .i64 0, .int .i64 0] 35) = W5 at hH2 HF2 ⊢
              (try simp only [Act.put, List.getElem_toArray, List.getElem_cons_zero, List.getElem_cons_succ, List.setIfInBounds_toArray, List.set_cons_zero, List.set_cons_succ])
              have hz := st0a W5 pa HF2 HD2
              rw [hF, hA] at hz
              simp only [puts, Act.put, List.getElem_toArray, List.getElem_cons_zero, List.getElem_cons_succ, List.setIfInBounds_toArray, List.set_cons_zero, List.set_cons_succ] at hz
              exact hz
            · go_simp
              obtain ⟨pb, hp⟩ : ∃ pb, pb = W.heap.size := ⟨_, rfl⟩
              (try rw [← hp])
              have HF2 : Hid (Rws w (W.alloc (.cells #[.int .i64 0, .int .i64 0, .int .i64 0, .int .i64 0, .int .i64 0, .int .i64 0, .int .i64 0, .int .i64 0] 35)) ((pb, 35, #[.int .i64 0, .int .i64 0, .int .i64 0, .int .i64 0, .int .i64 0, .int .i64 0, .int .i64 0, .int .i64 0]) :: L0)) := Lib.hid (HF.out.alloc pb hp _ _)
              have HD2 : Hid ((∀ r ∈ L0, r.1 ≠ pb) ∧ w.heap.size ≤ pb) := Lib.hid ⟨(fun q hq => Nat.ne_of_lt (by rw [hp]; exact HF.out.lt q hq)), (by rw [hp]; exact HF.out.2.size)⟩
              refine kHeld hK.out (W := W.alloc (.cells #[.int .i64 0, .int .i64 0, .int .i64 0, .int .i64 0, .int .i64 0, .int .i64 0, .int .i64 0, .int .i64 0] 35)) (Lib.hid HF2.out.tail) (fun hH2 => ?_)
              clear hK K hHeld
              generalize W.alloc (.cells #[.int .i64 0, .int .i64 0, .int .i64 0, .int .i64 0, .int .i64 0, .int .i64 0, .int .i64 0, .int .i64 0] 35) = W5 at hH2 HF2 ⊢
              (try simp only [Act.put, List.getElem_toArray, List.getElem_cons_zero, List.getElem_cons_succ, List.setIfInBounds_toArray, List.set_cons_zero, List.set_cons_succ])
              have hz := st0b W5 pb HF2 HD2
              rw [hF, hA] at hz
              simp only [puts, Act.put, List.getElem_toArray, List.getElem_cons_zero, List.getElem_cons_succ, List.setIfInBounds_toArray, List.set_cons_zero, List.set_cons_succ] at hz
              exact hz
          rw [hF, hA]
          simp only [puts, Act.put, List.getElem_toArray, List.getElem_cons_zero, List.getElem_cons_succ, List.setIfInBounds_toArray, List.set_cons_zero, List.set_cons_succ]
          refine wpAnyH_take (i := 0) (v := ?_) rfl (by kernel_rfl) (by kernel_rfl) (by kernel_rfl) (fun _ _ _ h => nomatch h.1) (Or.inl ⟨by rfl, ?_⟩) (by assumption) ?_
          rotate_left
          · (intro wx hSw; go_simp; (try with_reducible rfl))
          (try simp only [Act.put, List.getElem_toArray, List.getElem_cons_zero, List.getElem_cons_succ, List.setIfInBounds_toArray, List.set_cons_zero, List.set_cons_succ])
          refine wpAnyH_take (i := 1) (v := ?_) rfl (by kernel_rfl) (by kernel_rfl) (by kernel_rfl) (fun _ _ _ h => nomatch h.1) (Or.inl ⟨by rfl, ?_⟩) (by assumption) ?_
          rotate_left
          · (intro wx hSw; have hSx := hSw.out; rw [HL0.out] at hSx; have k0 : wx.cell? ⟨w.heap.size + 1, 0, none⟩ = some (.int .i64 sec) := hSx.tail.at0.cell 0; have k1 : wx.cell? ⟨w.heap.size + 1, 1, none⟩ = some (.int .i64 ns) := hSx.tail.at0.cell 1; go_simp; (try with_reducible rfl))
          (try simp only [Act.put, List.getElem_toArray, List.getElem_cons_zero, List.getElem_cons_succ, List.setIfInBounds_toArray, List.set_cons_zero, List.set_cons_succ])
          refine wpAnyH_take (i := 2) (v := ?_) rfl (by kernel_rfl) (by kernel_rfl) (by kernel_rfl) (fun _ _ _ h => nomatch h.1) (Or.inl ⟨by rfl, ?_⟩) (by assumption) ?_
          rotate_left
          · (intro wx hSw; go_simp; (try with_reducible rfl))
          (try simp only [Act.put, List.getElem_toArray, List.getElem_cons_zero, List.getElem_cons_succ, List.setIfInBounds_toArray, List.set_cons_zero, List.set_cons_succ])
          refine wpAnyH_take (i := 6) (v := ?_) rfl (by kernel_rfl) (by kernel_rfl) (by kernel_rfl) (fun _ _ _ h => nomatch h.1) (Or.inl ⟨by rfl, ?_⟩) (by assumption) ?_
          rotate_left
          · (intro wx hSw; have hSx := hSw.out; rw [HL0.out] at hSx; have k0 : wx.cell? ⟨p1, 0, none⟩ = some (.int .i64 x) := hSx.at0.cell 0; have k1 : wx.cell? ⟨p1, 1, none⟩ = some (.int .i64 0) := hSx.at0.cell 1; go_simp; (try with_reducible rfl))
          (try simp only [Act.put, List.getElem_toArray, List.getElem_cons_zero, List.getElem_cons_succ, List.setIfInBounds_toArray, List.set_cons_zero, List.set_cons_succ])
          rw [IntWalk.i64_in (sec + 1) (by omega), Hu.out]
          have hz := st0 Wd HFd (Lib.hid trivial)
          rw [hF, hA] at hz
          simp only [puts, Act.put, List.getElem_toArray, List.getElem_cons_zero, List.getElem_cons_succ, List.setIfInBounds_toArray, List.set_cons_zero, List.set_cons_succ] at hz
          exact hz
        case hq =>
          rintro ⟨pa, pb⟩ W4 hF
          rw [HL0.out] at hF
          (simp only [puts, Act.put, List.setIfInBounds_toArray, List.set_cons_zero, List.set_cons_succ])
          have HQ := Lib.hid hF
          clear hF HL0 HR2 L0
          obtain ⟨d0, hd0⟩ : ∃ d, (a0 != c0) = d := ⟨_, rfl⟩
          obtain ⟨d1, hd1⟩ : ∃ d, (a1 != c1) = d := ⟨_, rfl⟩
          obtain ⟨d2, hd2⟩ : ∃ d, (a2 != c2) = d := ⟨_, rfl⟩
          obtain ⟨d3, hd3⟩ : ∃ d, (a3 != c3) = d := ⟨_, rfl⟩
          obtain ⟨d4, hd4⟩ : ∃ d, (a4 != c4) = d := ⟨_, rfl⟩
          cases d0 with
          | true =>
            have hs := Lib.hid (Or.inl hd0 : (a0 != c0) = true ∨ (a1 != c1) = true ∨ (a2 != c2) = true)
            have ya0 : W4.cell? ⟨pa, 0, none⟩ = some (.int .i64 a0) := HQ.out.at1.cell 0
            have yb0 : W4.cell? ⟨pb, 0, none⟩ = some (.int .i64 c0) := HQ.out.at0.cell 0
            have ya1 : W4.cell? ⟨pa, 1, none⟩ = some (.int .i64 a1) := HQ.out.at1.cell 1
            have yb1 : W4.cell? ⟨pb, 1, none⟩ = some (.int .i64 c1) := HQ.out.at0.cell 1
            have ya2 : W4.cell? ⟨pa, 2, none⟩ = some (.int .i64 a2) := HQ.out.at1.cell 2
            have yb2 : W4.cell? ⟨pb, 2, none⟩ = some (.int .i64 c2) := HQ.out.at0.cell 2
            have ya3 : W4.cell? ⟨pa, 3, none⟩ = some (.int .i64 a3) := HQ.out.at1.cell 3
            have yb3 : W4.cell? ⟨pb, 3, none⟩ = some (.int .i64 c3) := HQ.out.at0.cell 3
            have ya4 : W4.cell? ⟨pa, 4, none⟩ = some (.int .i64 a4) := HQ.out.at1.cell 4
            have yb4 : W4.cell? ⟨pb, 4, none⟩ = some (.int .i64 c4) := HQ.out.at0.cell 4
            go_wp2_with fail
            clear ya0 yb0 ya1 yb1 ya2 yb2 ya3 yb3 ya4 yb4
            have HX1 : Hid (∀ W, Calls Try.prog 23 #[.int .i64 2, .int .u64 s.ho] W fun e w' => e = .returned (.int .i64 c3) ∧ W = w') := Lib.hid (fun W => least_fix 2 0 23 (by decide) (by decide) (Lib.hid (numLow 2 (by decide))) (Lib.hid (numHigh 2 (by decide))) s.ho hok.out.2.2.1 c3 (Lib.hid (hLs.out.1 (hs.out))) W)
            have HX2 : Hid (∀ W, Calls Try.prog 23 #[.int .i64 1, .int .u64 s.mi] W fun e w' => e = .returned (.int .i64 c4) ∧ W = w') := Lib.hid (fun W => least_fix 1 0 59 (by decide) (by decide) (Lib.hid (numLow 1 (by decide))) (Lib.hid (numHigh 1 (by decide))) s.mi hok.out.2.1 c4 (Lib.hid (hLs.out.2.1 (hs.out.imp id (Or.imp id Or.inl)))) W)
            have HX3 : Hid (∀ W, Calls Try.prog 23 #[.int .i64 0, .int .u64 s.se] W fun e w' => e = .returned (.int .i64 c5) ∧ W = w') := Lib.hid (fun W => least_fix 0 0 59 (by decide) (by decide) (Lib.hid (numLow 0 (by decide))) (Lib.hid (numHigh 0 (by decide))) s.se hok.out.1 c5 (Lib.hid (hLs.out.2.2 (hs.out.imp id (Or.imp id Or.inl)))) W)
            obtain ⟨L0, HL0⟩ : ∃ L0 : List (Nat × TypeId × Array Value), Hid (L0 = [(pb, 35, #[.int .i64 c0, .int .i64 c1, .int .i64 c2, .int .i64 c3, .int .i64 c4, .int .i64 c5, .int .i64 c6, .int .i64 c7]), (pa, 35, #[.int .i64 a0, .int .i64 a1, .int .i64 a2, .int .i64 a3, .int .i64 a4, .int .i64 a5, .int .i64 a6, .int .i64 a7]), (p1, 24, #[.int .i64 x, .int .i64 0]), (w.heap.size + 1, 24, #[.int .i64 sec, .int .i64 ns]), (w.heap.size, 38, #[.bool false, .int .i64 dl, .int .u64 s.se, .int .u64 s.mi, .int .u64 s.ho, .int .u64 s.dom, .int .u64 s.mo, .int .u64 s.dow])]) := ⟨_, rfl⟩
            rw [← HL0.out] at HQ
            have HFd : Hid (Rws w W4.drew L0) := Lib.hid HQ.out.drew
            refine wp_region_held_drew (S := fun w' => Hid (Rws w w' L0)) (by kernel_rfl) HFd (fun hHeld => ?_)
            clear HFd HQ
            generalize W4.drew = Wd at hHeld ⊢
            (try simp only [Act.put, List.getElem_toArray, List.getElem_cons_zero, List.getElem_cons_succ, List.setIfInBounds_toArray, List.set_cons_zero, List.set_cons_succ])
            refine wpAnyH_take (i := 0) (v := ?_) rfl (by kernel_rfl) (by kernel_rfl) (by kernel_rfl) (fun _ _ _ h => h) (Or.inl ⟨by rfl, ?_⟩) (by assumption) ?_
            rotate_left
            · (intro wx hSw; go_simp; (try with_reducible rfl))
            (try simp only [Act.put, List.getElem_toArray, List.getElem_cons_zero, List.getElem_cons_succ, List.setIfInBounds_toArray, List.set_cons_zero, List.set_cons_succ])
            refine wpAnyH_take (i := 1) (v := ?_) rfl (by kernel_rfl) (by kernel_rfl) (by kernel_rfl) (fun _ _ _ h => h) (Or.inl ⟨by rfl, ?_⟩) (by assumption) ?_
            rotate_left
            · (intro wx hSw; go_simp; (try with_reducible rfl))
            (try simp only [Act.put, List.getElem_toArray, List.getElem_cons_zero, List.getElem_cons_succ, List.setIfInBounds_toArray, List.set_cons_zero, List.set_cons_succ])
            refine wpAnyH_take (i := 2) (v := ?_) rfl (by kernel_rfl) (by kernel_rfl) (by kernel_rfl) (fun _ _ _ h => h) (Or.inl ⟨by rfl, ?_⟩) (by assumption) ?_
            rotate_left
            · (intro wx hSw; go_simp; (try with_reducible rfl))
            (try simp only [Act.put, List.getElem_toArray, List.getElem_cons_zero, List.getElem_cons_succ, List.setIfInBounds_toArray, List.set_cons_zero, List.set_cons_succ])
            refine wpAnyH_take (i := 3) (v := ?_) rfl (by kernel_rfl) (by kernel_rfl) (by kernel_rfl) (fun _ _ _ h => h) (Or.inl ⟨by rfl, ?_⟩) (by assumption) ?_
            rotate_left
            · (intro wx hSw; have hSx := hSw.out; rw [HL0.out] at hSx; have k0 : wx.cell? ⟨pb, 3, none⟩ = some (.int .i64 c3) := hSx.at0.cell 3; go_simp; (try with_reducible rfl))
            (try simp only [Act.put, List.getElem_toArray, List.getElem_cons_zero, List.getElem_cons_succ, List.setIfInBounds_toArray, List.set_cons_zero, List.set_cons_succ])
            refine wpAnyH_take (i := 4) (v := ?_) rfl (by kernel_rfl) (by kernel_rfl) (by kernel_rfl) (fun _ _ _ h => h) (Or.inl ⟨by rfl, ?_⟩) (by assumption) ?_
            rotate_left
            · (intro wx hSw; go_simp; (try with_reducible rfl))
            (try simp only [Act.put, List.getElem_toArray, List.getElem_cons_zero, List.getElem_cons_succ, List.setIfInBounds_toArray, List.set_cons_zero, List.set_cons_succ])
            refine wpAnyH_take (i := 5) (v := ?_) rfl (by kernel_rfl) (by kernel_rfl) (by kernel_rfl) (fun _ _ _ h => h) (Or.inl ⟨by rfl, ?_⟩) (by assumption) ?_
            rotate_left
            · (intro wx hSw; have hSx := hSw.out; rw [HL0.out] at hSx; have k0 : wx.cell? ⟨w.heap.size, 4, none⟩ = some (.int .u64 s.ho) := hSx.tail.tail.tail.tail.at0.cell 4; go_simp; (try with_reducible rfl))
            (try simp only [Act.put, List.getElem_toArray, List.getElem_cons_zero, List.getElem_cons_succ, List.setIfInBounds_toArray, List.set_cons_zero, List.set_cons_succ])
            refine wpAnyH_ready (rs := [6]) (by kernel_rfl) (by simp) ?_
            refine (AllReadyH.cons rfl (fun K hK => ?_) AllReadyH.nil)
            go_simp
            go_at_call 23
            refine (HX1.out _).mono ?_
            rintro e vq2 ⟨rfl, rfl⟩
            have HN := Lib.hid hHeld.out
            refine hK.out _ _ HN (fun hH2 => ?_)
            clear hK K hHeld 
            have hHeld := hH2
            clear hH2
            (try simp only [Act.put, List.getElem_toArray, List.getElem_cons_zero, List.getElem_cons_succ, List.setIfInBounds_toArray, List.set_cons_zero, List.set_cons_succ])
            refine wpAnyH_take (i := 7) (v := ?_) rfl (by kernel_rfl) (by kernel_rfl) (by kernel_rfl) (fun _ _ _ h => h) (Or.inl ⟨by rfl, ?_⟩) (by assumption) ?_
            rotate_left
            · (intro wx hSw; go_simp; (try with_reducible rfl))
            (try simp only [Act.put, List.getElem_toArray, List.getElem_cons_zero, List.getElem_cons_succ, List.setIfInBounds_toArray, List.set_cons_zero, List.set_cons_succ])
            refine wpAnyH_take (i := 8) (v := ?_) rfl (by kernel_rfl) (by kernel_rfl) (by kernel_rfl) (fun _ _ _ h => h) (Or.inl ⟨by rfl, ?_⟩) (by assumption) ?_
            rotate_left
            · (intro wx hSw; go_simp; (try with_reducible rfl))
            (try simp only [Act.put, List.getElem_toArray, List.getElem_cons_zero, List.getElem_cons_succ, List.setIfInBounds_toArray, List.set_cons_zero, List.set_cons_succ])
            refine wpAnyH_take (i := 9) (v := ?_) rfl (by kernel_rfl) (by kernel_rfl) (by kernel_rfl) (fun _ _ _ h => h) (Or.inl ⟨by rfl, ?_⟩) (by assumption) ?_
            rotate_left
            · (intro wx hSw; go_simp; (try with_reducible rfl))
            (try simp only [Act.put, List.getElem_toArray, List.getElem_cons_zero, List.getElem_cons_succ, List.setIfInBounds_toArray, List.set_cons_zero, List.set_cons_succ])
            refine wpAnyH_take (i := 10) (v := ?_) rfl (by kernel_rfl) (by kernel_rfl) (by kernel_rfl) (fun _ _ _ h => h) (Or.inl ⟨by rfl, ?_⟩) (by assumption) ?_
            rotate_left
            · (intro wx hSw; go_simp; (try with_reducible rfl))
            (try simp only [Act.put, List.getElem_toArray, List.getElem_cons_zero, List.getElem_cons_succ, List.setIfInBounds_toArray, List.set_cons_zero, List.set_cons_succ])
            refine wpAnyH_take (i := 11) (v := ?_) rfl (by kernel_rfl) (by kernel_rfl) (by kernel_rfl) (fun _ _ _ h => h) (Or.inl ⟨by rfl, ?_⟩) (by assumption) ?_
            rotate_left
            · (intro wx hSw; go_simp; (try with_reducible rfl))
            (try simp only [Act.put, List.getElem_toArray, List.getElem_cons_zero, List.getElem_cons_succ, List.setIfInBounds_toArray, List.set_cons_zero, List.set_cons_succ])
            refine wpAnyH_take (i := 12) (v := ?_) rfl (by kernel_rfl) (by kernel_rfl) (by kernel_rfl) (fun _ _ _ h => h) (Or.inl ⟨by rfl, ?_⟩) (by assumption) ?_
            rotate_left
            · (intro wx hSw; go_simp; (try with_reducible rfl))
            (try simp only [Act.put, List.getElem_toArray, List.getElem_cons_zero, List.getElem_cons_succ, List.setIfInBounds_toArray, List.set_cons_zero, List.set_cons_succ])
            refine wpAnyH_take (i := 13) (v := ?_) rfl (by kernel_rfl) (by kernel_rfl) (by kernel_rfl) (fun _ _ _ h => h) (Or.inl ⟨by rfl, ?_⟩) (by assumption) ?_
            rotate_left
            · (intro wx hSw; have hSx := hSw.out; rw [HL0.out] at hSx; have k0 : wx.cell? ⟨pb, 4, none⟩ = some (.int .i64 c4) := hSx.at0.cell 4; go_simp; (try with_reducible rfl))
            (try simp only [Act.put, List.getElem_toArray, List.getElem_cons_zero, List.getElem_cons_succ, List.setIfInBounds_toArray, List.set_cons_zero, List.set_cons_succ])
            refine wpAnyH_take (i := 14) (v := ?_) rfl (by kernel_rfl) (by kernel_rfl) (by kernel_rfl) (fun _ _ _ h => h) (Or.inl ⟨by rfl, ?_⟩) (by assumption) ?_
            rotate_left
            · (intro wx hSw; go_simp; (try with_reducible rfl))
            (try simp only [Act.put, List.getElem_toArray, List.getElem_cons_zero, List.getElem_cons_succ, List.setIfInBounds_toArray, List.set_cons_zero, List.set_cons_succ])
            refine wpAnyH_take (i := 15) (v := ?_) rfl (by kernel_rfl) (by kernel_rfl) (by kernel_rfl) (fun _ _ _ h => h) (Or.inl ⟨by rfl, ?_⟩) (by assumption) ?_
            rotate_left
            · (intro wx hSw; have hSx := hSw.out; rw [HL0.out] at hSx; have k0 : wx.cell? ⟨w.heap.size, 3, none⟩ = some (.int .u64 s.mi) := hSx.tail.tail.tail.tail.at0.cell 3; go_simp; (try with_reducible rfl))
            (try simp only [Act.put, List.getElem_toArray, List.getElem_cons_zero, List.getElem_cons_succ, List.setIfInBounds_toArray, List.set_cons_zero, List.set_cons_succ])
            refine wpAnyH_ready (rs := [16]) (by kernel_rfl) (by simp) ?_
            refine (AllReadyH.cons rfl (fun K hK => ?_) AllReadyH.nil)
            go_simp
            go_at_call 23
            refine (HX2.out _).mono ?_
            rintro e vq12 ⟨rfl, rfl⟩
            have HN := Lib.hid hHeld.out
            refine hK.out _ _ HN (fun hH2 => ?_)
            clear hK K hHeld 
            have hHeld := hH2
            clear hH2
            (try simp only [Act.put, List.getElem_toArray, List.getElem_cons_zero, List.getElem_cons_succ, List.setIfInBounds_toArray, List.set_cons_zero, List.set_cons_succ])
            refine wpAnyH_take (i := 17) (v := ?_) rfl (by kernel_rfl) (by kernel_rfl) (by kernel_rfl) (fun _ _ _ h => h) (Or.inl ⟨by rfl, ?_⟩) (by assumption) ?_
            rotate_left
            · (intro wx hSw; go_simp; (try with_reducible rfl))
            (try simp only [Act.put, List.getElem_toArray, List.getElem_cons_zero, List.getElem_cons_succ, List.setIfInBounds_toArray, List.set_cons_zero, List.set_cons_succ])
            refine wpAnyH_take (i := 18) (v := ?_) rfl (by kernel_rfl) (by kernel_rfl) (by kernel_rfl) (fun _ _ _ h => h) (Or.inl ⟨by rfl, ?_⟩) (by assumption) ?_
            rotate_left
            · (intro wx hSw; go_simp; (try with_reducible rfl))
            (try simp only [Act.put, List.getElem_toArray, List.getElem_cons_zero, List.getElem_cons_succ, List.setIfInBounds_toArray, List.set_cons_zero, List.set_cons_succ])
            refine wpAnyH_take (i := 19) (v := ?_) rfl (by kernel_rfl) (by kernel_rfl) (by kernel_rfl) (fun _ _ _ h => h) (Or.inl ⟨by rfl, ?_⟩) (by assumption) ?_
            rotate_left
            · (intro wx hSw; go_simp; (try with_reducible rfl))
            (try simp only [Act.put, List.getElem_toArray, List.getElem_cons_zero, List.getElem_cons_succ, List.setIfInBounds_toArray, List.set_cons_zero, List.set_cons_succ])
            refine wpAnyH_take (i := 20) (v := ?_) rfl (by kernel_rfl) (by kernel_rfl) (by kernel_rfl) (fun _ _ _ h => h) (Or.inl ⟨by rfl, ?_⟩) (by assumption) ?_
            rotate_left
            · (intro wx hSw; go_simp; (try with_reducible rfl))
            (try simp only [Act.put, List.getElem_toArray, List.getElem_cons_zero, List.getElem_cons_succ, List.setIfInBounds_toArray, List.set_cons_zero, List.set_cons_succ])
            refine wpAnyH_take (i := 21) (v := ?_) rfl (by kernel_rfl) (by kernel_rfl) (by kernel_rfl) (fun _ _ _ h => h) (Or.inl ⟨by rfl, ?_⟩) (by assumption) ?_
            rotate_left
            · (intro wx hSw; go_simp; (try with_reducible rfl))
            (try simp only [Act.put, List.getElem_toArray, List.getElem_cons_zero, List.getElem_cons_succ, List.setIfInBounds_toArray, List.set_cons_zero, List.set_cons_succ])
            refine wpAnyH_take (i := 22) (v := ?_) rfl (by kernel_rfl) (by kernel_rfl) (by kernel_rfl) (fun _ _ _ h => h) (Or.inl ⟨by rfl, ?_⟩) (by assumption) ?_
            rotate_left
            · (intro wx hSw; go_simp; (try with_reducible rfl))
            (try simp only [Act.put, List.getElem_toArray, List.getElem_cons_zero, List.getElem_cons_succ, List.setIfInBounds_toArray, List.set_cons_zero, List.set_cons_succ])
            refine wpAnyH_take (i := 23) (v := ?_) rfl (by kernel_rfl) (by kernel_rfl) (by kernel_rfl) (fun _ _ _ h => h) (Or.inl ⟨by rfl, ?_⟩) (by assumption) ?_
            rotate_left
            · (intro wx hSw; go_simp; (try with_reducible rfl))
            (try simp only [Act.put, List.getElem_toArray, List.getElem_cons_zero, List.getElem_cons_succ, List.setIfInBounds_toArray, List.set_cons_zero, List.set_cons_succ])
            refine wpAnyH_take (i := 24) (v := ?_) rfl (by kernel_rfl) (by kernel_rfl) (by kernel_rfl) (fun _ _ _ h => h) (Or.inl ⟨by rfl, ?_⟩) (by assumption) ?_
            rotate_left
            · (intro wx hSw; have hSx := hSw.out; rw [HL0.out] at hSx; have k0 : wx.cell? ⟨pb, 5, none⟩ = some (.int .i64 c5) := hSx.at0.cell 5; go_simp; (try with_reducible rfl))
            (try simp only [Act.put, List.getElem_toArray, List.getElem_cons_zero, List.getElem_cons_succ, List.setIfInBounds_toArray, List.set_cons_zero, List.set_cons_succ])
            refine wpAnyH_take (i := 25) (v := ?_) rfl (by kernel_rfl) (by kernel_rfl) (by kernel_rfl) (fun _ _ _ h => h) (Or.inl ⟨by rfl, ?_⟩) (by assumption) ?_
            rotate_left
            · (intro wx hSw; go_simp; (try with_reducible rfl))
            (try simp only [Act.put, List.getElem_toArray, List.getElem_cons_zero, List.getElem_cons_succ, List.setIfInBounds_toArray, List.set_cons_zero, List.set_cons_succ])
            refine wpAnyH_take (i := 26) (v := ?_) rfl (by kernel_rfl) (by kernel_rfl) (by kernel_rfl) (fun _ _ _ h => h) (Or.inl ⟨by rfl, ?_⟩) (by assumption) ?_
            rotate_left
            · (intro wx hSw; have hSx := hSw.out; rw [HL0.out] at hSx; have k0 : wx.cell? ⟨w.heap.size, 2, none⟩ = some (.int .u64 s.se) := hSx.tail.tail.tail.tail.at0.cell 2; go_simp; (try with_reducible rfl))
            (try simp only [Act.put, List.getElem_toArray, List.getElem_cons_zero, List.getElem_cons_succ, List.setIfInBounds_toArray, List.set_cons_zero, List.set_cons_succ])
            refine wpAnyH_ready (rs := [27]) (by kernel_rfl) (by simp) ?_
            refine (AllReadyH.cons rfl (fun K hK => ?_) AllReadyH.nil)
            go_simp
            go_at_call 23
            refine (HX3.out _).mono ?_
            rintro e vq23 ⟨rfl, rfl⟩
            have HN := Lib.hid hHeld.out
            refine hK.out _ _ HN (fun hH2 => ?_)
            clear hK K hHeld 
            have hHeld := hH2
            clear hH2
            (try simp only [Act.put, List.getElem_toArray, List.getElem_cons_zero, List.getElem_cons_succ, List.setIfInBounds_toArray, List.set_cons_zero, List.set_cons_succ])
            refine wpAnyH_take (i := 28) (v := ?_) rfl (by kernel_rfl) (by kernel_rfl) (by kernel_rfl) (fun _ _ _ h => h) (Or.inl ⟨by rfl, ?_⟩) (by assumption) ?_
            rotate_left
            · (intro wx hSw; go_simp; (try with_reducible rfl))
            (try simp only [Act.put, List.getElem_toArray, List.getElem_cons_zero, List.getElem_cons_succ, List.setIfInBounds_toArray, List.set_cons_zero, List.set_cons_succ])
            refine wpAnyH_take (i := 29) (v := ?_) rfl (by kernel_rfl) (by kernel_rfl) (by kernel_rfl) (fun _ _ _ h => h) (Or.inl ⟨by rfl, ?_⟩) (by assumption) ?_
            rotate_left
            · (intro wx hSw; go_simp; (try with_reducible rfl))
            (try simp only [Act.put, List.getElem_toArray, List.getElem_cons_zero, List.getElem_cons_succ, List.setIfInBounds_toArray, List.set_cons_zero, List.set_cons_succ])
            refine wpAnyH_take (i := 30) (v := ?_) rfl (by kernel_rfl) (by kernel_rfl) (by kernel_rfl) (fun _ _ _ h => h) (Or.inl ⟨by rfl, ?_⟩) (by assumption) ?_
            rotate_left
            · (intro wx hSw; go_simp; (try with_reducible rfl))
            (try simp only [Act.put, List.getElem_toArray, List.getElem_cons_zero, List.getElem_cons_succ, List.setIfInBounds_toArray, List.set_cons_zero, List.set_cons_succ])
            refine wpAnyH_done (by kernel_rfl) ?_ _
            have HQ9 := Lib.hid hHeld.out
            rw [HL0.out] at HQ9
            clear hHeld HL0
            refine q_named ?_
            intro Wz hWz
            rw [hWz] at HQ9
            clear hWz
            have z0 : Wz.cell? ⟨p1, 0, none⟩ = some (.int .i64 x) := HQ9.out.tail.tail.at0.cell 0
            have z1 : Wz.cell? ⟨p1, 1, none⟩ = some (.int .i64 0) := HQ9.out.tail.tail.at0.cell 1
            have z2 : Wz.cell? ⟨w.heap.size + 1, 0, none⟩ = some (.int .i64 sec) := HQ9.out.tail.tail.tail.at0.cell 0
            go_wp2_with fail
            go_ret
            exact ⟨rfl, HQ9.out.2⟩
          | false =>
            cases d1 with
            | true =>
              have hs := Lib.hid (Or.inr (Or.inl hd1) : (a0 != c0) = true ∨ (a1 != c1) = true ∨ (a2 != c2) = true)
              have ya0 : W4.cell? ⟨pa, 0, none⟩ = some (.int .i64 a0) := HQ.out.at1.cell 0
              have yb0 : W4.cell? ⟨pb, 0, none⟩ = some (.int .i64 c0) := HQ.out.at0.cell 0
              have ya1 : W4.cell? ⟨pa, 1, none⟩ = some (.int .i64 a1) := HQ.out.at1.cell 1
              have yb1 : W4.cell? ⟨pb, 1, none⟩ = some (.int .i64 c1) := HQ.out.at0.cell 1
              have ya2 : W4.cell? ⟨pa, 2, none⟩ = some (.int .i64 a2) := HQ.out.at1.cell 2
              have yb2 : W4.cell? ⟨pb, 2, none⟩ = some (.int .i64 c2) := HQ.out.at0.cell 2
              have ya3 : W4.cell? ⟨pa, 3, none⟩ = some (.int .i64 a3) := HQ.out.at1.cell 3
              have yb3 : W4.cell? ⟨pb, 3, none⟩ = some (.int .i64 c3) := HQ.out.at0.cell 3
              have ya4 : W4.cell? ⟨pa, 4, none⟩ = some (.int .i64 a4) := HQ.out.at1.cell 4
              have yb4 : W4.cell? ⟨pb, 4, none⟩ = some (.int .i64 c4) := HQ.out.at0.cell 4
              go_wp2_with fail
              clear ya0 yb0 ya1 yb1 ya2 yb2 ya3 yb3 ya4 yb4
              have HX1 : Hid (∀ W, Calls Try.prog 23 #[.int .i64 2, .int .u64 s.ho] W fun e w' => e = .returned (.int .i64 c3) ∧ W = w') := Lib.hid (fun W => least_fix 2 0 23 (by decide) (by decide) (Lib.hid (numLow 2 (by decide))) (Lib.hid (numHigh 2 (by decide))) s.ho hok.out.2.2.1 c3 (Lib.hid (hLs.out.1 (hs.out))) W)
              have HX2 : Hid (∀ W, Calls Try.prog 23 #[.int .i64 1, .int .u64 s.mi] W fun e w' => e = .returned (.int .i64 c4) ∧ W = w') := Lib.hid (fun W => least_fix 1 0 59 (by decide) (by decide) (Lib.hid (numLow 1 (by decide))) (Lib.hid (numHigh 1 (by decide))) s.mi hok.out.2.1 c4 (Lib.hid (hLs.out.2.1 (hs.out.imp id (Or.imp id Or.inl)))) W)
              have HX3 : Hid (∀ W, Calls Try.prog 23 #[.int .i64 0, .int .u64 s.se] W fun e w' => e = .returned (.int .i64 c5) ∧ W = w') := Lib.hid (fun W => least_fix 0 0 59 (by decide) (by decide) (Lib.hid (numLow 0 (by decide))) (Lib.hid (numHigh 0 (by decide))) s.se hok.out.1 c5 (Lib.hid (hLs.out.2.2 (hs.out.imp id (Or.imp id Or.inl)))) W)
              obtain ⟨L0, HL0⟩ : ∃ L0 : List (Nat × TypeId × Array Value), Hid (L0 = [(pb, 35, #[.int .i64 c0, .int .i64 c1, .int .i64 c2, .int .i64 c3, .int .i64 c4, .int .i64 c5, .int .i64 c6, .int .i64 c7]), (pa, 35, #[.int .i64 a0, .int .i64 a1, .int .i64 a2, .int .i64 a3, .int .i64 a4, .int .i64 a5, .int .i64 a6, .int .i64 a7]), (p1, 24, #[.int .i64 x, .int .i64 0]), (w.heap.size + 1, 24, #[.int .i64 sec, .int .i64 ns]), (w.heap.size, 38, #[.bool false, .int .i64 dl, .int .u64 s.se, .int .u64 s.mi, .int .u64 s.ho, .int .u64 s.dom, .int .u64 s.mo, .int .u64 s.dow])]) := ⟨_, rfl⟩
              rw [← HL0.out] at HQ
              have HFd : Hid (Rws w W4.drew L0) := Lib.hid HQ.out.drew
              refine wp_region_held_drew (S := fun w' => Hid (Rws w w' L0)) (by kernel_rfl) HFd (fun hHeld => ?_)
              clear HFd HQ
              generalize W4.drew = Wd at hHeld ⊢
              (try simp only [Act.put, List.getElem_toArray, List.getElem_cons_zero, List.getElem_cons_succ, List.setIfInBounds_toArray, List.set_cons_zero, List.set_cons_succ])
              refine wpAnyH_take (i := 0) (v := ?_) rfl (by kernel_rfl) (by kernel_rfl) (by kernel_rfl) (fun _ _ _ h => h) (Or.inl ⟨by rfl, ?_⟩) (by assumption) ?_
              rotate_left
              · (intro wx hSw; go_simp; (try with_reducible rfl))
              (try simp only [Act.put, List.getElem_toArray, List.getElem_cons_zero, List.getElem_cons_succ, List.setIfInBounds_toArray, List.set_cons_zero, List.set_cons_succ])
              refine wpAnyH_take (i := 1) (v := ?_) rfl (by kernel_rfl) (by kernel_rfl) (by kernel_rfl) (fun _ _ _ h => h) (Or.inl ⟨by rfl, ?_⟩) (by assumption) ?_
              rotate_left
              · (intro wx hSw; go_simp; (try with_reducible rfl))
              (try simp only [Act.put, List.getElem_toArray, List.getElem_cons_zero, List.getElem_cons_succ, List.setIfInBounds_toArray, List.set_cons_zero, List.set_cons_succ])
              refine wpAnyH_take (i := 2) (v := ?_) rfl (by kernel_rfl) (by kernel_rfl) (by kernel_rfl) (fun _ _ _ h => h) (Or.inl ⟨by rfl, ?_⟩) (by assumption) ?_
              rotate_left
              · (intro wx hSw; go_simp; (try with_reducible rfl))
              (try simp only [Act.put, List.getElem_toArray, List.getElem_cons_zero, List.getElem_cons_succ, List.setIfInBounds_toArray, List.set_cons_zero, List.set_cons_succ])
              refine wpAnyH_take (i := 3) (v := ?_) rfl (by kernel_rfl) (by kernel_rfl) (by kernel_rfl) (fun _ _ _ h => h) (Or.inl ⟨by rfl, ?_⟩) (by assumption) ?_
              rotate_left
              · (intro wx hSw; have hSx := hSw.out; rw [HL0.out] at hSx; have k0 : wx.cell? ⟨pb, 3, none⟩ = some (.int .i64 c3) := hSx.at0.cell 3; go_simp; (try with_reducible rfl))
              (try simp only [Act.put, List.getElem_toArray, List.getElem_cons_zero, List.getElem_cons_succ, List.setIfInBounds_toArray, List.set_cons_zero, List.set_cons_succ])
              refine wpAnyH_take (i := 4) (v := ?_) rfl (by kernel_rfl) (by kernel_rfl) (by kernel_rfl) (fun _ _ _ h => h) (Or.inl ⟨by rfl, ?_⟩) (by assumption) ?_
              rotate_left
              · (intro wx hSw; go_simp; (try with_reducible rfl))
              (try simp only [Act.put, List.getElem_toArray, List.getElem_cons_zero, List.getElem_cons_succ, List.setIfInBounds_toArray, List.set_cons_zero, List.set_cons_succ])
              refine wpAnyH_take (i := 5) (v := ?_) rfl (by kernel_rfl) (by kernel_rfl) (by kernel_rfl) (fun _ _ _ h => h) (Or.inl ⟨by rfl, ?_⟩) (by assumption) ?_
              rotate_left
              · (intro wx hSw; have hSx := hSw.out; rw [HL0.out] at hSx; have k0 : wx.cell? ⟨w.heap.size, 4, none⟩ = some (.int .u64 s.ho) := hSx.tail.tail.tail.tail.at0.cell 4; go_simp; (try with_reducible rfl))
              (try simp only [Act.put, List.getElem_toArray, List.getElem_cons_zero, List.getElem_cons_succ, List.setIfInBounds_toArray, List.set_cons_zero, List.set_cons_succ])
              refine wpAnyH_ready (rs := [6]) (by kernel_rfl) (by simp) ?_
              refine (AllReadyH.cons rfl (fun K hK => ?_) AllReadyH.nil)
              go_simp
              go_at_call 23
              refine (HX1.out _).mono ?_
              rintro e vq2 ⟨rfl, rfl⟩
              have HN := Lib.hid hHeld.out
              refine hK.out _ _ HN (fun hH2 => ?_)
              clear hK K hHeld 
              have hHeld := hH2
              clear hH2
              (try simp only [Act.put, List.getElem_toArray, List.getElem_cons_zero, List.getElem_cons_succ, List.setIfInBounds_toArray, List.set_cons_zero, List.set_cons_succ])
              refine wpAnyH_take (i := 7) (v := ?_) rfl (by kernel_rfl) (by kernel_rfl) (by kernel_rfl) (fun _ _ _ h => h) (Or.inl ⟨by rfl, ?_⟩) (by assumption) ?_
              rotate_left
              · (intro wx hSw; go_simp; (try with_reducible rfl))
              (try simp only [Act.put, List.getElem_toArray, List.getElem_cons_zero, List.getElem_cons_succ, List.setIfInBounds_toArray, List.set_cons_zero, List.set_cons_succ])
              refine wpAnyH_take (i := 8) (v := ?_) rfl (by kernel_rfl) (by kernel_rfl) (by kernel_rfl) (fun _ _ _ h => h) (Or.inl ⟨by rfl, ?_⟩) (by assumption) ?_
              rotate_left
              · (intro wx hSw; go_simp; (try with_reducible rfl))
              (try simp only [Act.put, List.getElem_toArray, List.getElem_cons_zero, List.getElem_cons_succ, List.setIfInBounds_toArray, List.set_cons_zero, List.set_cons_succ])
              refine wpAnyH_take (i := 9) (v := ?_) rfl (by kernel_rfl) (by kernel_rfl) (by kernel_rfl) (fun _ _ _ h => h) (Or.inl ⟨by rfl, ?_⟩) (by assumption) ?_
              rotate_left
              · (intro wx hSw; go_simp; (try with_reducible rfl))
              (try simp only [Act.put, List.getElem_toArray, List.getElem_cons_zero, List.getElem_cons_succ, List.setIfInBounds_toArray, List.set_cons_zero, List.set_cons_succ])
              refine wpAnyH_take (i := 10) (v := ?_) rfl (by kernel_rfl) (by kernel_rfl) (by kernel_rfl) (fun _ _ _ h => h) (Or.inl ⟨by rfl, ?_⟩) (by assumption) ?_
              rotate_left
              · (intro wx hSw; go_simp; (try with_reducible rfl))
              (try simp only [Act.put, List.getElem_toArray, List.getElem_cons_zero, List.getElem_cons_succ, List.setIfInBounds_toArray, List.set_cons_zero, List.set_cons_succ])
              refine wpAnyH_take (i := 11) (v := ?_) rfl (by kernel_rfl) (by kernel_rfl) (by kernel_rfl) (fun _ _ _ h => h) (Or.inl ⟨by rfl, ?_⟩) (by assumption) ?_
              rotate_left
              · (intro wx hSw; go_simp; (try with_reducible rfl))
              (try simp only [Act.put, List.getElem_toArray, List.getElem_cons_zero, List.getElem_cons_succ, List.setIfInBounds_toArray, List.set_cons_zero, List.set_cons_succ])
              refine wpAnyH_take (i := 12) (v := ?_) rfl (by kernel_rfl) (by kernel_rfl) (by kernel_rfl) (fun _ _ _ h => h) (Or.inl ⟨by rfl, ?_⟩) (by assumption) ?_
              rotate_left
              · (intro wx hSw; go_simp; (try with_reducible rfl))
              (try simp only [Act.put, List.getElem_toArray, List.getElem_cons_zero, List.getElem_cons_succ, List.setIfInBounds_toArray, List.set_cons_zero, List.set_cons_succ])
              refine wpAnyH_take (i := 13) (v := ?_) rfl (by kernel_rfl) (by kernel_rfl) (by kernel_rfl) (fun _ _ _ h => h) (Or.inl ⟨by rfl, ?_⟩) (by assumption) ?_
              rotate_left
              · (intro wx hSw; have hSx := hSw.out; rw [HL0.out] at hSx; have k0 : wx.cell? ⟨pb, 4, none⟩ = some (.int .i64 c4) := hSx.at0.cell 4; go_simp; (try with_reducible rfl))
              (try simp only [Act.put, List.getElem_toArray, List.getElem_cons_zero, List.getElem_cons_succ, List.setIfInBounds_toArray, List.set_cons_zero, List.set_cons_succ])
              refine wpAnyH_take (i := 14) (v := ?_) rfl (by kernel_rfl) (by kernel_rfl) (by kernel_rfl) (fun _ _ _ h => h) (Or.inl ⟨by rfl, ?_⟩) (by assumption) ?_
              rotate_left
              · (intro wx hSw; go_simp; (try with_reducible rfl))
              (try simp only [Act.put, List.getElem_toArray, List.getElem_cons_zero, List.getElem_cons_succ, List.setIfInBounds_toArray, List.set_cons_zero, List.set_cons_succ])
              refine wpAnyH_take (i := 15) (v := ?_) rfl (by kernel_rfl) (by kernel_rfl) (by kernel_rfl) (fun _ _ _ h => h) (Or.inl ⟨by rfl, ?_⟩) (by assumption) ?_
              rotate_left
              · (intro wx hSw; have hSx := hSw.out; rw [HL0.out] at hSx; have k0 : wx.cell? ⟨w.heap.size, 3, none⟩ = some (.int .u64 s.mi) := hSx.tail.tail.tail.tail.at0.cell 3; go_simp; (try with_reducible rfl))
              (try simp only [Act.put, List.getElem_toArray, List.getElem_cons_zero, List.getElem_cons_succ, List.setIfInBounds_toArray, List.set_cons_zero, List.set_cons_succ])
              refine wpAnyH_ready (rs := [16]) (by kernel_rfl) (by simp) ?_
              refine (AllReadyH.cons rfl (fun K hK => ?_) AllReadyH.nil)
              go_simp
              go_at_call 23
              refine (HX2.out _).mono ?_
              rintro e vq12 ⟨rfl, rfl⟩
              have HN := Lib.hid hHeld.out
              refine hK.out _ _ HN (fun hH2 => ?_)
              clear hK K hHeld 
              have hHeld := hH2
              clear hH2
              (try simp only [Act.put, List.getElem_toArray, List.getElem_cons_zero, List.getElem_cons_succ, List.setIfInBounds_toArray, List.set_cons_zero, List.set_cons_succ])
              refine wpAnyH_take (i := 17) (v := ?_) rfl (by kernel_rfl) (by kernel_rfl) (by kernel_rfl) (fun _ _ _ h => h) (Or.inl ⟨by rfl, ?_⟩) (by assumption) ?_
              rotate_left
              · (intro wx hSw; go_simp; (try with_reducible rfl))
              (try simp only [Act.put, List.getElem_toArray, List.getElem_cons_zero, List.getElem_cons_succ, List.setIfInBounds_toArray, List.set_cons_zero, List.set_cons_succ])
              refine wpAnyH_take (i := 18) (v := ?_) rfl (by kernel_rfl) (by kernel_rfl) (by kernel_rfl) (fun _ _ _ h => h) (Or.inl ⟨by rfl, ?_⟩) (by assumption) ?_
              rotate_left
              · (intro wx hSw; go_simp; (try with_reducible rfl))
              (try simp only [Act.put, List.getElem_toArray, List.getElem_cons_zero, List.getElem_cons_succ, List.setIfInBounds_toArray, List.set_cons_zero, List.set_cons_succ])
              refine wpAnyH_take (i := 19) (v := ?_) rfl (by kernel_rfl) (by kernel_rfl) (by kernel_rfl) (fun _ _ _ h => h) (Or.inl ⟨by rfl, ?_⟩) (by assumption) ?_
              rotate_left
              · (intro wx hSw; go_simp; (try with_reducible rfl))
              (try simp only [Act.put, List.getElem_toArray, List.getElem_cons_zero, List.getElem_cons_succ, List.setIfInBounds_toArray, List.set_cons_zero, List.set_cons_succ])
              refine wpAnyH_take (i := 20) (v := ?_) rfl (by kernel_rfl) (by kernel_rfl) (by kernel_rfl) (fun _ _ _ h => h) (Or.inl ⟨by rfl, ?_⟩) (by assumption) ?_
              rotate_left
              · (intro wx hSw; go_simp; (try with_reducible rfl))
              (try simp only [Act.put, List.getElem_toArray, List.getElem_cons_zero, List.getElem_cons_succ, List.setIfInBounds_toArray, List.set_cons_zero, List.set_cons_succ])
              refine wpAnyH_take (i := 21) (v := ?_) rfl (by kernel_rfl) (by kernel_rfl) (by kernel_rfl) (fun _ _ _ h => h) (Or.inl ⟨by rfl, ?_⟩) (by assumption) ?_
              rotate_left
              · (intro wx hSw; go_simp; (try with_reducible rfl))
              (try simp only [Act.put, List.getElem_toArray, List.getElem_cons_zero, List.getElem_cons_succ, List.setIfInBounds_toArray, List.set_cons_zero, List.set_cons_succ])
              refine wpAnyH_take (i := 22) (v := ?_) rfl (by kernel_rfl) (by kernel_rfl) (by kernel_rfl) (fun _ _ _ h => h) (Or.inl ⟨by rfl, ?_⟩) (by assumption) ?_
              rotate_left
              · (intro wx hSw; go_simp; (try with_reducible rfl))
              (try simp only [Act.put, List.getElem_toArray, List.getElem_cons_zero, List.getElem_cons_succ, List.setIfInBounds_toArray, List.set_cons_zero, List.set_cons_succ])
              refine wpAnyH_take (i := 23) (v := ?_) rfl (by kernel_rfl) (by kernel_rfl) (by kernel_rfl) (fun _ _ _ h => h) (Or.inl ⟨by rfl, ?_⟩) (by assumption) ?_
              rotate_left
              · (intro wx hSw; go_simp; (try with_reducible rfl))
              (try simp only [Act.put, List.getElem_toArray, List.getElem_cons_zero, List.getElem_cons_succ, List.setIfInBounds_toArray, List.set_cons_zero, List.set_cons_succ])
              refine wpAnyH_take (i := 24) (v := ?_) rfl (by kernel_rfl) (by kernel_rfl) (by kernel_rfl) (fun _ _ _ h => h) (Or.inl ⟨by rfl, ?_⟩) (by assumption) ?_
              rotate_left
              · (intro wx hSw; have hSx := hSw.out; rw [HL0.out] at hSx; have k0 : wx.cell? ⟨pb, 5, none⟩ = some (.int .i64 c5) := hSx.at0.cell 5; go_simp; (try with_reducible rfl))
              (try simp only [Act.put, List.getElem_toArray, List.getElem_cons_zero, List.getElem_cons_succ, List.setIfInBounds_toArray, List.set_cons_zero, List.set_cons_succ])
              refine wpAnyH_take (i := 25) (v := ?_) rfl (by kernel_rfl) (by kernel_rfl) (by kernel_rfl) (fun _ _ _ h => h) (Or.inl ⟨by rfl, ?_⟩) (by assumption) ?_
              rotate_left
              · (intro wx hSw; go_simp; (try with_reducible rfl))
              (try simp only [Act.put, List.getElem_toArray, List.getElem_cons_zero, List.getElem_cons_succ, List.setIfInBounds_toArray, List.set_cons_zero, List.set_cons_succ])
              refine wpAnyH_take (i := 26) (v := ?_) rfl (by kernel_rfl) (by kernel_rfl) (by kernel_rfl) (fun _ _ _ h => h) (Or.inl ⟨by rfl, ?_⟩) (by assumption) ?_
              rotate_left
              · (intro wx hSw; have hSx := hSw.out; rw [HL0.out] at hSx; have k0 : wx.cell? ⟨w.heap.size, 2, none⟩ = some (.int .u64 s.se) := hSx.tail.tail.tail.tail.at0.cell 2; go_simp; (try with_reducible rfl))
              (try simp only [Act.put, List.getElem_toArray, List.getElem_cons_zero, List.getElem_cons_succ, List.setIfInBounds_toArray, List.set_cons_zero, List.set_cons_succ])
              refine wpAnyH_ready (rs := [27]) (by kernel_rfl) (by simp) ?_
              refine (AllReadyH.cons rfl (fun K hK => ?_) AllReadyH.nil)
              go_simp
              go_at_call 23
              refine (HX3.out _).mono ?_
              rintro e vq23 ⟨rfl, rfl⟩
              have HN := Lib.hid hHeld.out
              refine hK.out _ _ HN (fun hH2 => ?_)
              clear hK K hHeld 
              have hHeld := hH2
              clear hH2
              (try simp only [Act.put, List.getElem_toArray, List.getElem_cons_zero, List.getElem_cons_succ, List.setIfInBounds_toArray, List.set_cons_zero, List.set_cons_succ])
              refine wpAnyH_take (i := 28) (v := ?_) rfl (by kernel_rfl) (by kernel_rfl) (by kernel_rfl) (fun _ _ _ h => h) (Or.inl ⟨by rfl, ?_⟩) (by assumption) ?_
              rotate_left
              · (intro wx hSw; go_simp; (try with_reducible rfl))
              (try simp only [Act.put, List.getElem_toArray, List.getElem_cons_zero, List.getElem_cons_succ, List.setIfInBounds_toArray, List.set_cons_zero, List.set_cons_succ])
              refine wpAnyH_take (i := 29) (v := ?_) rfl (by kernel_rfl) (by kernel_rfl) (by kernel_rfl) (fun _ _ _ h => h) (Or.inl ⟨by rfl, ?_⟩) (by assumption) ?_
              rotate_left
              · (intro wx hSw; go_simp; (try with_reducible rfl))
              (try simp only [Act.put, List.getElem_toArray, List.getElem_cons_zero, List.getElem_cons_succ, List.setIfInBounds_toArray, List.set_cons_zero, List.set_cons_succ])
              refine wpAnyH_take (i := 30) (v := ?_) rfl (by kernel_rfl) (by kernel_rfl) (by kernel_rfl) (fun _ _ _ h => h) (Or.inl ⟨by rfl, ?_⟩) (by assumption) ?_
              rotate_left
              · (intro wx hSw; go_simp; (try with_reducible rfl))
              (try simp only [Act.put, List.getElem_toArray, List.getElem_cons_zero, List.getElem_cons_succ, List.setIfInBounds_toArray, List.set_cons_zero, List.set_cons_succ])
              refine wpAnyH_done (by kernel_rfl) ?_ _
              have HQ9 := Lib.hid hHeld.out
              rw [HL0.out] at HQ9
              clear hHeld HL0
              refine q_named ?_
              intro Wz hWz
              rw [hWz] at HQ9
              clear hWz
              have z0 : Wz.cell? ⟨p1, 0, none⟩ = some (.int .i64 x) := HQ9.out.tail.tail.at0.cell 0
              have z1 : Wz.cell? ⟨p1, 1, none⟩ = some (.int .i64 0) := HQ9.out.tail.tail.at0.cell 1
              have z2 : Wz.cell? ⟨w.heap.size + 1, 0, none⟩ = some (.int .i64 sec) := HQ9.out.tail.tail.tail.at0.cell 0
              go_wp2_with fail
              go_ret
              exact ⟨rfl, HQ9.out.2⟩
            | false =>
              cases d2 with
              | true =>
                have hs := Lib.hid (Or.inr (Or.inr hd2) : (a0 != c0) = true ∨ (a1 != c1) = true ∨ (a2 != c2) = true)
                have ya0 : W4.cell? ⟨pa, 0, none⟩ = some (.int .i64 a0) := HQ.out.at1.cell 0
                have yb0 : W4.cell? ⟨pb, 0, none⟩ = some (.int .i64 c0) := HQ.out.at0.cell 0
                have ya1 : W4.cell? ⟨pa, 1, none⟩ = some (.int .i64 a1) := HQ.out.at1.cell 1
                have yb1 : W4.cell? ⟨pb, 1, none⟩ = some (.int .i64 c1) := HQ.out.at0.cell 1
                have ya2 : W4.cell? ⟨pa, 2, none⟩ = some (.int .i64 a2) := HQ.out.at1.cell 2
                have yb2 : W4.cell? ⟨pb, 2, none⟩ = some (.int .i64 c2) := HQ.out.at0.cell 2
                have ya3 : W4.cell? ⟨pa, 3, none⟩ = some (.int .i64 a3) := HQ.out.at1.cell 3
                have yb3 : W4.cell? ⟨pb, 3, none⟩ = some (.int .i64 c3) := HQ.out.at0.cell 3
                have ya4 : W4.cell? ⟨pa, 4, none⟩ = some (.int .i64 a4) := HQ.out.at1.cell 4
                have yb4 : W4.cell? ⟨pb, 4, none⟩ = some (.int .i64 c4) := HQ.out.at0.cell 4
                go_wp2_with fail
                clear ya0 yb0 ya1 yb1 ya2 yb2 ya3 yb3 ya4 yb4
                have HX1 : Hid (∀ W, Calls Try.prog 23 #[.int .i64 2, .int .u64 s.ho] W fun e w' => e = .returned (.int .i64 c3) ∧ W = w') := Lib.hid (fun W => least_fix 2 0 23 (by decide) (by decide) (Lib.hid (numLow 2 (by decide))) (Lib.hid (numHigh 2 (by decide))) s.ho hok.out.2.2.1 c3 (Lib.hid (hLs.out.1 (hs.out))) W)
                have HX2 : Hid (∀ W, Calls Try.prog 23 #[.int .i64 1, .int .u64 s.mi] W fun e w' => e = .returned (.int .i64 c4) ∧ W = w') := Lib.hid (fun W => least_fix 1 0 59 (by decide) (by decide) (Lib.hid (numLow 1 (by decide))) (Lib.hid (numHigh 1 (by decide))) s.mi hok.out.2.1 c4 (Lib.hid (hLs.out.2.1 (hs.out.imp id (Or.imp id Or.inl)))) W)
                have HX3 : Hid (∀ W, Calls Try.prog 23 #[.int .i64 0, .int .u64 s.se] W fun e w' => e = .returned (.int .i64 c5) ∧ W = w') := Lib.hid (fun W => least_fix 0 0 59 (by decide) (by decide) (Lib.hid (numLow 0 (by decide))) (Lib.hid (numHigh 0 (by decide))) s.se hok.out.1 c5 (Lib.hid (hLs.out.2.2 (hs.out.imp id (Or.imp id Or.inl)))) W)
                obtain ⟨L0, HL0⟩ : ∃ L0 : List (Nat × TypeId × Array Value), Hid (L0 = [(pb, 35, #[.int .i64 c0, .int .i64 c1, .int .i64 c2, .int .i64 c3, .int .i64 c4, .int .i64 c5, .int .i64 c6, .int .i64 c7]), (pa, 35, #[.int .i64 a0, .int .i64 a1, .int .i64 a2, .int .i64 a3, .int .i64 a4, .int .i64 a5, .int .i64 a6, .int .i64 a7]), (p1, 24, #[.int .i64 x, .int .i64 0]), (w.heap.size + 1, 24, #[.int .i64 sec, .int .i64 ns]), (w.heap.size, 38, #[.bool false, .int .i64 dl, .int .u64 s.se, .int .u64 s.mi, .int .u64 s.ho, .int .u64 s.dom, .int .u64 s.mo, .int .u64 s.dow])]) := ⟨_, rfl⟩
                rw [← HL0.out] at HQ
                have HFd : Hid (Rws w W4.drew L0) := Lib.hid HQ.out.drew
                refine wp_region_held_drew (S := fun w' => Hid (Rws w w' L0)) (by kernel_rfl) HFd (fun hHeld => ?_)
                clear HFd HQ
                generalize W4.drew = Wd at hHeld ⊢
                (try simp only [Act.put, List.getElem_toArray, List.getElem_cons_zero, List.getElem_cons_succ, List.setIfInBounds_toArray, List.set_cons_zero, List.set_cons_succ])
                refine wpAnyH_take (i := 0) (v := ?_) rfl (by kernel_rfl) (by kernel_rfl) (by kernel_rfl) (fun _ _ _ h => h) (Or.inl ⟨by rfl, ?_⟩) (by assumption) ?_
                rotate_left
                · (intro wx hSw; go_simp; (try with_reducible rfl))
                (try simp only [Act.put, List.getElem_toArray, List.getElem_cons_zero, List.getElem_cons_succ, List.setIfInBounds_toArray, List.set_cons_zero, List.set_cons_succ])
                refine wpAnyH_take (i := 1) (v := ?_) rfl (by kernel_rfl) (by kernel_rfl) (by kernel_rfl) (fun _ _ _ h => h) (Or.inl ⟨by rfl, ?_⟩) (by assumption) ?_
                rotate_left
                · (intro wx hSw; go_simp; (try with_reducible rfl))
                (try simp only [Act.put, List.getElem_toArray, List.getElem_cons_zero, List.getElem_cons_succ, List.setIfInBounds_toArray, List.set_cons_zero, List.set_cons_succ])
                refine wpAnyH_take (i := 2) (v := ?_) rfl (by kernel_rfl) (by kernel_rfl) (by kernel_rfl) (fun _ _ _ h => h) (Or.inl ⟨by rfl, ?_⟩) (by assumption) ?_
                rotate_left
                · (intro wx hSw; go_simp; (try with_reducible rfl))
                (try simp only [Act.put, List.getElem_toArray, List.getElem_cons_zero, List.getElem_cons_succ, List.setIfInBounds_toArray, List.set_cons_zero, List.set_cons_succ])
                refine wpAnyH_take (i := 3) (v := ?_) rfl (by kernel_rfl) (by kernel_rfl) (by kernel_rfl) (fun _ _ _ h => h) (Or.inl ⟨by rfl, ?_⟩) (by assumption) ?_
                rotate_left
                · (intro wx hSw; have hSx := hSw.out; rw [HL0.out] at hSx; have k0 : wx.cell? ⟨pb, 3, none⟩ = some (.int .i64 c3) := hSx.at0.cell 3; go_simp; (try with_reducible rfl))
                (try simp only [Act.put, List.getElem_toArray, List.getElem_cons_zero, List.getElem_cons_succ, List.setIfInBounds_toArray, List.set_cons_zero, List.set_cons_succ])
                refine wpAnyH_take (i := 4) (v := ?_) rfl (by kernel_rfl) (by kernel_rfl) (by kernel_rfl) (fun _ _ _ h => h) (Or.inl ⟨by rfl, ?_⟩) (by assumption) ?_
                rotate_left
                · (intro wx hSw; go_simp; (try with_reducible rfl))
                (try simp only [Act.put, List.getElem_toArray, List.getElem_cons_zero, List.getElem_cons_succ, List.setIfInBounds_toArray, List.set_cons_zero, List.set_cons_succ])
                refine wpAnyH_take (i := 5) (v := ?_) rfl (by kernel_rfl) (by kernel_rfl) (by kernel_rfl) (fun _ _ _ h => h) (Or.inl ⟨by rfl, ?_⟩) (by assumption) ?_
                rotate_left
                · (intro wx hSw; have hSx := hSw.out; rw [HL0.out] at hSx; have k0 : wx.cell? ⟨w.heap.size, 4, none⟩ = some (.int .u64 s.ho) := hSx.tail.tail.tail.tail.at0.cell 4; go_simp; (try with_reducible rfl))
                (try simp only [Act.put, List.getElem_toArray, List.getElem_cons_zero, List.getElem_cons_succ, List.setIfInBounds_toArray, List.set_cons_zero, List.set_cons_succ])
                refine wpAnyH_ready (rs := [6]) (by kernel_rfl) (by simp) ?_
                refine (AllReadyH.cons rfl (fun K hK => ?_) AllReadyH.nil)
                go_simp
                go_at_call 23
                refine (HX1.out _).mono ?_
                rintro e vq2 ⟨rfl, rfl⟩
                have HN := Lib.hid hHeld.out
                refine hK.out _ _ HN (fun hH2 => ?_)
                clear hK K hHeld 
                have hHeld := hH2
                clear hH2
                (try simp only [Act.put, List.getElem_toArray, List.getElem_cons_zero, List.getElem_cons_succ, List.setIfInBounds_toArray, List.set_cons_zero, List.set_cons_succ])
                refine wpAnyH_take (i := 7) (v := ?_) rfl (by kernel_rfl) (by kernel_rfl) (by kernel_rfl) (fun _ _ _ h => h) (Or.inl ⟨by rfl, ?_⟩) (by assumption) ?_
                rotate_left
                · (intro wx hSw; go_simp; (try with_reducible rfl))
                (try simp only [Act.put, List.getElem_toArray, List.getElem_cons_zero, List.getElem_cons_succ, List.setIfInBounds_toArray, List.set_cons_zero, List.set_cons_succ])
                refine wpAnyH_take (i := 8) (v := ?_) rfl (by kernel_rfl) (by kernel_rfl) (by kernel_rfl) (fun _ _ _ h => h) (Or.inl ⟨by rfl, ?_⟩) (by assumption) ?_
                rotate_left
                · (intro wx hSw; go_simp; (try with_reducible rfl))
                (try simp only [Act.put, List.getElem_toArray, List.getElem_cons_zero, List.getElem_cons_succ, List.setIfInBounds_toArray, List.set_cons_zero, List.set_cons_succ])
                refine wpAnyH_take (i := 9) (v := ?_) rfl (by kernel_rfl) (by kernel_rfl) (by kernel_rfl) (fun _ _ _ h => h) (Or.inl ⟨by rfl, ?_⟩) (by assumption) ?_
                rotate_left
                · (intro wx hSw; go_simp; (try with_reducible rfl))
                (try simp only [Act.put, List.getElem_toArray, List.getElem_cons_zero, List.getElem_cons_succ, List.setIfInBounds_toArray, List.set_cons_zero, List.set_cons_succ])
                refine wpAnyH_take (i := 10) (v := ?_) rfl (by kernel_rfl) (by kernel_rfl) (by kernel_rfl) (fun _ _ _ h => h) (Or.inl ⟨by rfl, ?_⟩) (by assumption) ?_
                rotate_left
                · (intro wx hSw; go_simp; (try with_reducible rfl))
                (try simp only [Act.put, List.getElem_toArray, List.getElem_cons_zero, List.getElem_cons_succ, List.setIfInBounds_toArray, List.set_cons_zero, List.set_cons_succ])
                refine wpAnyH_take (i := 11) (v := ?_) rfl (by kernel_rfl) (by kernel_rfl) (by kernel_rfl) (fun _ _ _ h => h) (Or.inl ⟨by rfl, ?_⟩) (by assumption) ?_
                rotate_left
                · (intro wx hSw; go_simp; (try with_reducible rfl))
                (try simp only [Act.put, List.getElem_toArray, List.getElem_cons_zero, List.getElem_cons_succ, List.setIfInBounds_toArray, List.set_cons_zero, List.set_cons_succ])
                refine wpAnyH_take (i := 12) (v := ?_) rfl (by kernel_rfl) (by kernel_rfl) (by kernel_rfl) (fun _ _ _ h => h) (Or.inl ⟨by rfl, ?_⟩) (by assumption) ?_
                rotate_left
                · (intro wx hSw; go_simp; (try with_reducible rfl))
                (try simp only [Act.put, List.getElem_toArray, List.getElem_cons_zero, List.getElem_cons_succ, List.setIfInBounds_toArray, List.set_cons_zero, List.set_cons_succ])
                refine wpAnyH_take (i := 13) (v := ?_) rfl (by kernel_rfl) (by kernel_rfl) (by kernel_rfl) (fun _ _ _ h => h) (Or.inl ⟨by rfl, ?_⟩) (by assumption) ?_
                rotate_left
                · (intro wx hSw; have hSx := hSw.out; rw [HL0.out] at hSx; have k0 : wx.cell? ⟨pb, 4, none⟩ = some (.int .i64 c4) := hSx.at0.cell 4; go_simp; (try with_reducible rfl))
                (try simp only [Act.put, List.getElem_toArray, List.getElem_cons_zero, List.getElem_cons_succ, List.setIfInBounds_toArray, List.set_cons_zero, List.set_cons_succ])
                refine wpAnyH_take (i := 14) (v := ?_) rfl (by kernel_rfl) (by kernel_rfl) (by kernel_rfl) (fun _ _ _ h => h) (Or.inl ⟨by rfl, ?_⟩) (by assumption) ?_
                rotate_left
                · (intro wx hSw; go_simp; (try with_reducible rfl))
                (try simp only [Act.put, List.getElem_toArray, List.getElem_cons_zero, List.getElem_cons_succ, List.setIfInBounds_toArray, List.set_cons_zero, List.set_cons_succ])
                refine wpAnyH_take (i := 15) (v := ?_) rfl (by kernel_rfl) (by kernel_rfl) (by kernel_rfl) (fun _ _ _ h => h) (Or.inl ⟨by rfl, ?_⟩) (by assumption) ?_
                rotate_left
                · (intro wx hSw; have hSx := hSw.out; rw [HL0.out] at hSx; have k0 : wx.cell? ⟨w.heap.size, 3, none⟩ = some (.int .u64 s.mi) := hSx.tail.tail.tail.tail.at0.cell 3; go_simp; (try with_reducible rfl))
                (try simp only [Act.put, List.getElem_toArray, List.getElem_cons_zero, List.getElem_cons_succ, List.setIfInBounds_toArray, List.set_cons_zero, List.set_cons_succ])
                refine wpAnyH_ready (rs := [16]) (by kernel_rfl) (by simp) ?_
                refine (AllReadyH.cons rfl (fun K hK => ?_) AllReadyH.nil)
                go_simp
                go_at_call 23
                refine (HX2.out _).mono ?_
                rintro e vq12 ⟨rfl, rfl⟩
                have HN := Lib.hid hHeld.out
                refine hK.out _ _ HN (fun hH2 => ?_)
                clear hK K hHeld 
                have hHeld := hH2
                clear hH2
                (try simp only [Act.put, List.getElem_toArray, List.getElem_cons_zero, List.getElem_cons_succ, List.setIfInBounds_toArray, List.set_cons_zero, List.set_cons_succ])
                refine wpAnyH_take (i := 17) (v := ?_) rfl (by kernel_rfl) (by kernel_rfl) (by kernel_rfl) (fun _ _ _ h => h) (Or.inl ⟨by rfl, ?_⟩) (by assumption) ?_
                rotate_left
                · (intro wx hSw; go_simp; (try with_reducible rfl))
                (try simp only [Act.put, List.getElem_toArray, List.getElem_cons_zero, List.getElem_cons_succ, List.setIfInBounds_toArray, List.set_cons_zero, List.set_cons_succ])
                refine wpAnyH_take (i := 18) (v := ?_) rfl (by kernel_rfl) (by kernel_rfl) (by kernel_rfl) (fun _ _ _ h => h) (Or.inl ⟨by rfl, ?_⟩) (by assumption) ?_
                rotate_left
                · (intro wx hSw; go_simp; (try with_reducible rfl))
                (try simp only [Act.put, List.getElem_toArray, List.getElem_cons_zero, List.getElem_cons_succ, List.setIfInBounds_toArray, List.set_cons_zero, List.set_cons_succ])
                refine wpAnyH_take (i := 19) (v := ?_) rfl (by kernel_rfl) (by kernel_rfl) (by kernel_rfl) (fun _ _ _ h => h) (Or.inl ⟨by rfl, ?_⟩) (by assumption) ?_
                rotate_left
                · (intro wx hSw; go_simp; (try with_reducible rfl))
                (try simp only [Act.put, List.getElem_toArray, List.getElem_cons_zero, List.getElem_cons_succ, List.setIfInBounds_toArray, List.set_cons_zero, List.set_cons_succ])
                refine wpAnyH_take (i := 20) (v := ?_) rfl (by kernel_rfl) (by kernel_rfl) (by kernel_rfl) (fun _ _ _ h => h) (Or.inl ⟨by rfl, ?_⟩) (by assumption) ?_
                rotate_left
                · (intro wx hSw; go_simp; (try with_reducible rfl))
                (try simp only [Act.put, List.getElem_toArray, List.getElem_cons_zero, List.getElem_cons_succ, List.setIfInBounds_toArray, List.set_cons_zero, List.set_cons_succ])
                refine wpAnyH_take (i := 21) (v := ?_) rfl (by kernel_rfl) (by kernel_rfl) (by kernel_rfl) (fun _ _ _ h => h) (Or.inl ⟨by rfl, ?_⟩) (by assumption) ?_
                rotate_left
                · (intro wx hSw; go_simp; (try with_reducible rfl))
                (try simp only [Act.put, List.getElem_toArray, List.getElem_cons_zero, List.getElem_cons_succ, List.setIfInBounds_toArray, List.set_cons_zero, List.set_cons_succ])
                refine wpAnyH_take (i := 22) (v := ?_) rfl (by kernel_rfl) (by kernel_rfl) (by kernel_rfl) (fun _ _ _ h => h) (Or.inl ⟨by rfl, ?_⟩) (by assumption) ?_
                rotate_left
                · (intro wx hSw; go_simp; (try with_reducible rfl))
                (try simp only [Act.put, List.getElem_toArray, List.getElem_cons_zero, List.getElem_cons_succ, List.setIfInBounds_toArray, List.set_cons_zero, List.set_cons_succ])
                refine wpAnyH_take (i := 23) (v := ?_) rfl (by kernel_rfl) (by kernel_rfl) (by kernel_rfl) (fun _ _ _ h => h) (Or.inl ⟨by rfl, ?_⟩) (by assumption) ?_
                rotate_left
                · (intro wx hSw; go_simp; (try with_reducible rfl))
                (try simp only [Act.put, List.getElem_toArray, List.getElem_cons_zero, List.getElem_cons_succ, List.setIfInBounds_toArray, List.set_cons_zero, List.set_cons_succ])
                refine wpAnyH_take (i := 24) (v := ?_) rfl (by kernel_rfl) (by kernel_rfl) (by kernel_rfl) (fun _ _ _ h => h) (Or.inl ⟨by rfl, ?_⟩) (by assumption) ?_
                rotate_left
                · (intro wx hSw; have hSx := hSw.out; rw [HL0.out] at hSx; have k0 : wx.cell? ⟨pb, 5, none⟩ = some (.int .i64 c5) := hSx.at0.cell 5; go_simp; (try with_reducible rfl))
                (try simp only [Act.put, List.getElem_toArray, List.getElem_cons_zero, List.getElem_cons_succ, List.setIfInBounds_toArray, List.set_cons_zero, List.set_cons_succ])
                refine wpAnyH_take (i := 25) (v := ?_) rfl (by kernel_rfl) (by kernel_rfl) (by kernel_rfl) (fun _ _ _ h => h) (Or.inl ⟨by rfl, ?_⟩) (by assumption) ?_
                rotate_left
                · (intro wx hSw; go_simp; (try with_reducible rfl))
                (try simp only [Act.put, List.getElem_toArray, List.getElem_cons_zero, List.getElem_cons_succ, List.setIfInBounds_toArray, List.set_cons_zero, List.set_cons_succ])
                refine wpAnyH_take (i := 26) (v := ?_) rfl (by kernel_rfl) (by kernel_rfl) (by kernel_rfl) (fun _ _ _ h => h) (Or.inl ⟨by rfl, ?_⟩) (by assumption) ?_
                rotate_left
                · (intro wx hSw; have hSx := hSw.out; rw [HL0.out] at hSx; have k0 : wx.cell? ⟨w.heap.size, 2, none⟩ = some (.int .u64 s.se) := hSx.tail.tail.tail.tail.at0.cell 2; go_simp; (try with_reducible rfl))
                (try simp only [Act.put, List.getElem_toArray, List.getElem_cons_zero, List.getElem_cons_succ, List.setIfInBounds_toArray, List.set_cons_zero, List.set_cons_succ])
                refine wpAnyH_ready (rs := [27]) (by kernel_rfl) (by simp) ?_
                refine (AllReadyH.cons rfl (fun K hK => ?_) AllReadyH.nil)
                go_simp
                go_at_call 23
                refine (HX3.out _).mono ?_
                rintro e vq23 ⟨rfl, rfl⟩
                have HN := Lib.hid hHeld.out
                refine hK.out _ _ HN (fun hH2 => ?_)
                clear hK K hHeld 
                have hHeld := hH2
                clear hH2
                (try simp only [Act.put, List.getElem_toArray, List.getElem_cons_zero, List.getElem_cons_succ, List.setIfInBounds_toArray, List.set_cons_zero, List.set_cons_succ])
                refine wpAnyH_take (i := 28) (v := ?_) rfl (by kernel_rfl) (by kernel_rfl) (by kernel_rfl) (fun _ _ _ h => h) (Or.inl ⟨by rfl, ?_⟩) (by assumption) ?_
                rotate_left
                · (intro wx hSw; go_simp; (try with_reducible rfl))
                (try simp only [Act.put, List.getElem_toArray, List.getElem_cons_zero, List.getElem_cons_succ, List.setIfInBounds_toArray, List.set_cons_zero, List.set_cons_succ])
                refine wpAnyH_take (i := 29) (v := ?_) rfl (by kernel_rfl) (by kernel_rfl) (by kernel_rfl) (fun _ _ _ h => h) (Or.inl ⟨by rfl, ?_⟩) (by assumption) ?_
                rotate_left
                · (intro wx hSw; go_simp; (try with_reducible rfl))
                (try simp only [Act.put, List.getElem_toArray, List.getElem_cons_zero, List.getElem_cons_succ, List.setIfInBounds_toArray, List.set_cons_zero, List.set_cons_succ])
                refine wpAnyH_take (i := 30) (v := ?_) rfl (by kernel_rfl) (by kernel_rfl) (by kernel_rfl) (fun _ _ _ h => h) (Or.inl ⟨by rfl, ?_⟩) (by assumption) ?_
                rotate_left
                · (intro wx hSw; go_simp; (try with_reducible rfl))
                (try simp only [Act.put, List.getElem_toArray, List.getElem_cons_zero, List.getElem_cons_succ, List.setIfInBounds_toArray, List.set_cons_zero, List.set_cons_succ])
                refine wpAnyH_done (by kernel_rfl) ?_ _
                have HQ9 := Lib.hid hHeld.out
                rw [HL0.out] at HQ9
                clear hHeld HL0
                refine q_named ?_
                intro Wz hWz
                rw [hWz] at HQ9
                clear hWz
                have z0 : Wz.cell? ⟨p1, 0, none⟩ = some (.int .i64 x) := HQ9.out.tail.tail.at0.cell 0
                have z1 : Wz.cell? ⟨p1, 1, none⟩ = some (.int .i64 0) := HQ9.out.tail.tail.at0.cell 1
                have z2 : Wz.cell? ⟨w.heap.size + 1, 0, none⟩ = some (.int .i64 sec) := HQ9.out.tail.tail.tail.at0.cell 0
                go_wp2_with fail
                go_ret
                exact ⟨rfl, HQ9.out.2⟩
              | false =>
                cases d3 with
                | true =>
                  have hs := Lib.hid hd3
                  have ya0 : W4.cell? ⟨pa, 0, none⟩ = some (.int .i64 a0) := HQ.out.at1.cell 0
                  have yb0 : W4.cell? ⟨pb, 0, none⟩ = some (.int .i64 c0) := HQ.out.at0.cell 0
                  have ya1 : W4.cell? ⟨pa, 1, none⟩ = some (.int .i64 a1) := HQ.out.at1.cell 1
                  have yb1 : W4.cell? ⟨pb, 1, none⟩ = some (.int .i64 c1) := HQ.out.at0.cell 1
                  have ya2 : W4.cell? ⟨pa, 2, none⟩ = some (.int .i64 a2) := HQ.out.at1.cell 2
                  have yb2 : W4.cell? ⟨pb, 2, none⟩ = some (.int .i64 c2) := HQ.out.at0.cell 2
                  have ya3 : W4.cell? ⟨pa, 3, none⟩ = some (.int .i64 a3) := HQ.out.at1.cell 3
                  have yb3 : W4.cell? ⟨pb, 3, none⟩ = some (.int .i64 c3) := HQ.out.at0.cell 3
                  have ya4 : W4.cell? ⟨pa, 4, none⟩ = some (.int .i64 a4) := HQ.out.at1.cell 4
                  have yb4 : W4.cell? ⟨pb, 4, none⟩ = some (.int .i64 c4) := HQ.out.at0.cell 4
                  go_wp2_with fail
                  clear ya0 yb0 ya1 yb1 ya2 yb2 ya3 yb3 ya4 yb4
                  have HX2 : Hid (∀ W, Calls Try.prog 23 #[.int .i64 1, .int .u64 s.mi] W fun e w' => e = .returned (.int .i64 c4) ∧ W = w') := Lib.hid (fun W => least_fix 1 0 59 (by decide) (by decide) (Lib.hid (numLow 1 (by decide))) (Lib.hid (numHigh 1 (by decide))) s.mi hok.out.2.1 c4 (Lib.hid (hLs.out.2.1 (Or.inr (Or.inr (Or.inr hs.out))))) W)
                  have HX3 : Hid (∀ W, Calls Try.prog 23 #[.int .i64 0, .int .u64 s.se] W fun e w' => e = .returned (.int .i64 c5) ∧ W = w') := Lib.hid (fun W => least_fix 0 0 59 (by decide) (by decide) (Lib.hid (numLow 0 (by decide))) (Lib.hid (numHigh 0 (by decide))) s.se hok.out.1 c5 (Lib.hid (hLs.out.2.2 (Or.inr (Or.inr (Or.inr (Or.inl hs.out)))))) W)
                  obtain ⟨L0, HL0⟩ : ∃ L0 : List (Nat × TypeId × Array Value), Hid (L0 = [(pb, 35, #[.int .i64 c0, .int .i64 c1, .int .i64 c2, .int .i64 c3, .int .i64 c4, .int .i64 c5, .int .i64 c6, .int .i64 c7]), (pa, 35, #[.int .i64 a0, .int .i64 a1, .int .i64 a2, .int .i64 a3, .int .i64 a4, .int .i64 a5, .int .i64 a6, .int .i64 a7]), (p1, 24, #[.int .i64 x, .int .i64 0]), (w.heap.size + 1, 24, #[.int .i64 sec, .int .i64 ns]), (w.heap.size, 38, #[.bool false, .int .i64 dl, .int .u64 s.se, .int .u64 s.mi, .int .u64 s.ho, .int .u64 s.dom, .int .u64 s.mo, .int .u64 s.dow])]) := ⟨_, rfl⟩
                  rw [← HL0.out] at HQ
                  have HFd : Hid (Rws w W4.drew L0) := Lib.hid HQ.out.drew
                  refine wp_region_held_drew (S := fun w' => Hid (Rws w w' L0)) (by kernel_rfl) HFd (fun hHeld => ?_)
                  clear HFd HQ
                  generalize W4.drew = Wd at hHeld ⊢
                  (try simp only [Act.put, List.getElem_toArray, List.getElem_cons_zero, List.getElem_cons_succ, List.setIfInBounds_toArray, List.set_cons_zero, List.set_cons_succ])
                  refine wpAnyH_take (i := 0) (v := ?_) rfl (by kernel_rfl) (by kernel_rfl) (by kernel_rfl) (fun _ _ _ h => h) (Or.inl ⟨by rfl, ?_⟩) (by assumption) ?_
                  rotate_left
                  · (intro wx hSw; go_simp; (try with_reducible rfl))
                  (try simp only [Act.put, List.getElem_toArray, List.getElem_cons_zero, List.getElem_cons_succ, List.setIfInBounds_toArray, List.set_cons_zero, List.set_cons_succ])
                  refine wpAnyH_take (i := 1) (v := ?_) rfl (by kernel_rfl) (by kernel_rfl) (by kernel_rfl) (fun _ _ _ h => h) (Or.inl ⟨by rfl, ?_⟩) (by assumption) ?_
                  rotate_left
                  · (intro wx hSw; go_simp; (try with_reducible rfl))
                  (try simp only [Act.put, List.getElem_toArray, List.getElem_cons_zero, List.getElem_cons_succ, List.setIfInBounds_toArray, List.set_cons_zero, List.set_cons_succ])
                  refine wpAnyH_take (i := 2) (v := undef) rfl (by kernel_rfl) (by kernel_rfl) (by kernel_rfl) (fun _ _ _ h => h) (Or.inr ⟨by rfl, rfl⟩) (by assumption) ?_
                  (try simp only [Act.put, List.getElem_toArray, List.getElem_cons_zero, List.getElem_cons_succ, List.setIfInBounds_toArray, List.set_cons_zero, List.set_cons_succ])
                  refine wpAnyH_take (i := 3) (v := undef) rfl (by kernel_rfl) (by kernel_rfl) (by kernel_rfl) (fun _ _ _ h => h) (Or.inr ⟨by rfl, rfl⟩) (by assumption) ?_
                  (try simp only [Act.put, List.getElem_toArray, List.getElem_cons_zero, List.getElem_cons_succ, List.setIfInBounds_toArray, List.set_cons_zero, List.set_cons_succ])
                  refine wpAnyH_take (i := 4) (v := undef) rfl (by kernel_rfl) (by kernel_rfl) (by kernel_rfl) (fun _ _ _ h => h) (Or.inr ⟨by rfl, rfl⟩) (by assumption) ?_
                  (try simp only [Act.put, List.getElem_toArray, List.getElem_cons_zero, List.getElem_cons_succ, List.setIfInBounds_toArray, List.set_cons_zero, List.set_cons_succ])
                  refine wpAnyH_take (i := 5) (v := undef) rfl (by kernel_rfl) (by kernel_rfl) (by kernel_rfl) (fun _ _ _ h => h) (Or.inr ⟨by rfl, rfl⟩) (by assumption) ?_
                  (try simp only [Act.put, List.getElem_toArray, List.getElem_cons_zero, List.getElem_cons_succ, List.setIfInBounds_toArray, List.set_cons_zero, List.set_cons_succ])
                  refine wpAnyH_take (i := 6) (v := undef) rfl (by kernel_rfl) (by kernel_rfl) (by kernel_rfl) (fun _ _ _ h => h) (Or.inr ⟨by rfl, rfl⟩) (by assumption) ?_
                  (try simp only [Act.put, List.getElem_toArray, List.getElem_cons_zero, List.getElem_cons_succ, List.setIfInBounds_toArray, List.set_cons_zero, List.set_cons_succ])
                  refine wpAnyH_take (i := 7) (v := undef) rfl (by kernel_rfl) (by kernel_rfl) (by kernel_rfl) (fun _ _ _ h => h) (Or.inr ⟨by rfl, rfl⟩) (by assumption) ?_
                  (try simp only [Act.put, List.getElem_toArray, List.getElem_cons_zero, List.getElem_cons_succ, List.setIfInBounds_toArray, List.set_cons_zero, List.set_cons_succ])
                  refine wpAnyH_take (i := 8) (v := ?_) rfl (by kernel_rfl) (by kernel_rfl) (by kernel_rfl) (fun _ _ _ h => h) (Or.inl ⟨by rfl, ?_⟩) (by assumption) ?_
                  rotate_left
                  · (intro wx hSw; go_simp; (try with_reducible rfl))
                  (try simp only [Act.put, List.getElem_toArray, List.getElem_cons_zero, List.getElem_cons_succ, List.setIfInBounds_toArray, List.set_cons_zero, List.set_cons_succ])
                  refine wpAnyH_take (i := 9) (v := ?_) rfl (by kernel_rfl) (by kernel_rfl) (by kernel_rfl) (fun _ _ _ h => h) (Or.inl ⟨by rfl, ?_⟩) (by assumption) ?_
                  rotate_left
                  · (intro wx hSw; go_simp; (try with_reducible rfl))
                  (try simp only [Act.put, List.getElem_toArray, List.getElem_cons_zero, List.getElem_cons_succ, List.setIfInBounds_toArray, List.set_cons_zero, List.set_cons_succ])
                  refine wpAnyH_take (i := 10) (v := ?_) rfl (by kernel_rfl) (by kernel_rfl) (by kernel_rfl) (fun _ _ _ h => h) (Or.inl ⟨by rfl, ?_⟩) (by assumption) ?_
                  rotate_left
                  · (intro wx hSw; go_simp; (try with_reducible rfl))
                  (try simp only [Act.put, List.getElem_toArray, List.getElem_cons_zero, List.getElem_cons_succ, List.setIfInBounds_toArray, List.set_cons_zero, List.set_cons_succ])
                  refine wpAnyH_take (i := 11) (v := ?_) rfl (by kernel_rfl) (by kernel_rfl) (by kernel_rfl) (fun _ _ _ h => h) (Or.inl ⟨by rfl, ?_⟩) (by assumption) ?_
                  rotate_left
                  · (intro wx hSw; go_simp; (try with_reducible rfl))
                  (try simp only [Act.put, List.getElem_toArray, List.getElem_cons_zero, List.getElem_cons_succ, List.setIfInBounds_toArray, List.set_cons_zero, List.set_cons_succ])
                  refine wpAnyH_take (i := 12) (v := ?_) rfl (by kernel_rfl) (by kernel_rfl) (by kernel_rfl) (fun _ _ _ h => h) (Or.inl ⟨by rfl, ?_⟩) (by assumption) ?_
                  rotate_left
                  · (intro wx hSw; go_simp; (try with_reducible rfl))
                  (try simp only [Act.put, List.getElem_toArray, List.getElem_cons_zero, List.getElem_cons_succ, List.setIfInBounds_toArray, List.set_cons_zero, List.set_cons_succ])
                  refine wpAnyH_take (i := 13) (v := ?_) rfl (by kernel_rfl) (by kernel_rfl) (by kernel_rfl) (fun _ _ _ h => h) (Or.inl ⟨by rfl, ?_⟩) (by assumption) ?_
                  rotate_left
                  · (intro wx hSw; have hSx := hSw.out; rw [HL0.out] at hSx; have k0 : wx.cell? ⟨pb, 4, none⟩ = some (.int .i64 c4) := hSx.at0.cell 4; go_simp; (try with_reducible rfl))
                  (try simp only [Act.put, List.getElem_toArray, List.getElem_cons_zero, List.getElem_cons_succ, List.setIfInBounds_toArray, List.set_cons_zero, List.set_cons_succ])
                  refine wpAnyH_take (i := 14) (v := ?_) rfl (by kernel_rfl) (by kernel_rfl) (by kernel_rfl) (fun _ _ _ h => h) (Or.inl ⟨by rfl, ?_⟩) (by assumption) ?_
                  rotate_left
                  · (intro wx hSw; go_simp; (try with_reducible rfl))
                  (try simp only [Act.put, List.getElem_toArray, List.getElem_cons_zero, List.getElem_cons_succ, List.setIfInBounds_toArray, List.set_cons_zero, List.set_cons_succ])
                  refine wpAnyH_take (i := 15) (v := ?_) rfl (by kernel_rfl) (by kernel_rfl) (by kernel_rfl) (fun _ _ _ h => h) (Or.inl ⟨by rfl, ?_⟩) (by assumption) ?_
                  rotate_left
                  · (intro wx hSw; have hSx := hSw.out; rw [HL0.out] at hSx; have k0 : wx.cell? ⟨w.heap.size, 3, none⟩ = some (.int .u64 s.mi) := hSx.tail.tail.tail.tail.at0.cell 3; go_simp; (try with_reducible rfl))
                  (try simp only [Act.put, List.getElem_toArray, List.getElem_cons_zero, List.getElem_cons_succ, List.setIfInBounds_toArray, List.set_cons_zero, List.set_cons_succ])
                  refine wpAnyH_ready (rs := [16]) (by kernel_rfl) (by simp) ?_
                  refine (AllReadyH.cons rfl (fun K hK => ?_) AllReadyH.nil)
                  go_simp
                  go_at_call 23
                  refine (HX2.out _).mono ?_
                  rintro e vq12 ⟨rfl, rfl⟩
                  have HN := Lib.hid hHeld.out
                  refine hK.out _ _ HN (fun hH2 => ?_)
                  clear hK K hHeld 
                  have hHeld := hH2
                  clear hH2
                  (try simp only [Act.put, List.getElem_toArray, List.getElem_cons_zero, List.getElem_cons_succ, List.setIfInBounds_toArray, List.set_cons_zero, List.set_cons_succ])
                  refine wpAnyH_take (i := 17) (v := ?_) rfl (by kernel_rfl) (by kernel_rfl) (by kernel_rfl) (fun _ _ _ h => h) (Or.inl ⟨by rfl, ?_⟩) (by assumption) ?_
                  rotate_left
                  · (intro wx hSw; go_simp; (try with_reducible rfl))
                  (try simp only [Act.put, List.getElem_toArray, List.getElem_cons_zero, List.getElem_cons_succ, List.setIfInBounds_toArray, List.set_cons_zero, List.set_cons_succ])
                  refine wpAnyH_take (i := 18) (v := ?_) rfl (by kernel_rfl) (by kernel_rfl) (by kernel_rfl) (fun _ _ _ h => h) (Or.inl ⟨by rfl, ?_⟩) (by assumption) ?_
                  rotate_left
                  · (intro wx hSw; go_simp; (try with_reducible rfl))
                  (try simp only [Act.put, List.getElem_toArray, List.getElem_cons_zero, List.getElem_cons_succ, List.setIfInBounds_toArray, List.set_cons_zero, List.set_cons_succ])
                  refine wpAnyH_take (i := 19) (v := ?_) rfl (by kernel_rfl) (by kernel_rfl) (by kernel_rfl) (fun _ _ _ h => h) (Or.inl ⟨by rfl, ?_⟩) (by assumption) ?_
                  rotate_left
                  · (intro wx hSw; go_simp; (try with_reducible rfl))
                  (try simp only [Act.put, List.getElem_toArray, List.getElem_cons_zero, List.getElem_cons_succ, List.setIfInBounds_toArray, List.set_cons_zero, List.set_cons_succ])
                  refine wpAnyH_take (i := 20) (v := ?_) rfl (by kernel_rfl) (by kernel_rfl) (by kernel_rfl) (fun _ _ _ h => h) (Or.inl ⟨by rfl, ?_⟩) (by assumption) ?_
                  rotate_left
                  · (intro wx hSw; go_simp; (try with_reducible rfl))
                  (try simp only [Act.put, List.getElem_toArray, List.getElem_cons_zero, List.getElem_cons_succ, List.setIfInBounds_toArray, List.set_cons_zero, List.set_cons_succ])
                  refine wpAnyH_take (i := 21) (v := ?_) rfl (by kernel_rfl) (by kernel_rfl) (by kernel_rfl) (fun _ _ _ h => h) (Or.inl ⟨by rfl, ?_⟩) (by assumption) ?_
                  rotate_left
                  · (intro wx hSw; go_simp; (try with_reducible rfl))
                  (try simp only [Act.put, List.getElem_toArray, List.getElem_cons_zero, List.getElem_cons_succ, List.setIfInBounds_toArray, List.set_cons_zero, List.set_cons_succ])
                  refine wpAnyH_take (i := 22) (v := ?_) rfl (by kernel_rfl) (by kernel_rfl) (by kernel_rfl) (fun _ _ _ h => h) (Or.inl ⟨by rfl, ?_⟩) (by assumption) ?_
                  rotate_left
                  · (intro wx hSw; go_simp; (try with_reducible rfl))
                  (try simp only [Act.put, List.getElem_toArray, List.getElem_cons_zero, List.getElem_cons_succ, List.setIfInBounds_toArray, List.set_cons_zero, List.set_cons_succ])
                  refine wpAnyH_take (i := 23) (v := ?_) rfl (by kernel_rfl) (by kernel_rfl) (by kernel_rfl) (fun _ _ _ h => h) (Or.inl ⟨by rfl, ?_⟩) (by assumption) ?_
                  rotate_left
                  · (intro wx hSw; go_simp; (try with_reducible rfl))
                  (try simp only [Act.put, List.getElem_toArray, List.getElem_cons_zero, List.getElem_cons_succ, List.setIfInBounds_toArray, List.set_cons_zero, List.set_cons_succ])
                  refine wpAnyH_take (i := 24) (v := ?_) rfl (by kernel_rfl) (by kernel_rfl) (by kernel_rfl) (fun _ _ _ h => h) (Or.inl ⟨by rfl, ?_⟩) (by assumption) ?_
                  rotate_left
                  · (intro wx hSw; have hSx := hSw.out; rw [HL0.out] at hSx; have k0 : wx.cell? ⟨pb, 5, none⟩ = some (.int .i64 c5) := hSx.at0.cell 5; go_simp; (try with_reducible rfl))
                  (try simp only [Act.put, List.getElem_toArray, List.getElem_cons_zero, List.getElem_cons_succ, List.setIfInBounds_toArray, List.set_cons_zero, List.set_cons_succ])
                  refine wpAnyH_take (i := 25) (v := ?_) rfl (by kernel_rfl) (by kernel_rfl) (by kernel_rfl) (fun _ _ _ h => h) (Or.inl ⟨by rfl, ?_⟩) (by assumption) ?_
                  rotate_left
                  · (intro wx hSw; go_simp; (try with_reducible rfl))
                  (try simp only [Act.put, List.getElem_toArray, List.getElem_cons_zero, List.getElem_cons_succ, List.setIfInBounds_toArray, List.set_cons_zero, List.set_cons_succ])
                  refine wpAnyH_take (i := 26) (v := ?_) rfl (by kernel_rfl) (by kernel_rfl) (by kernel_rfl) (fun _ _ _ h => h) (Or.inl ⟨by rfl, ?_⟩) (by assumption) ?_
                  rotate_left
                  · (intro wx hSw; have hSx := hSw.out; rw [HL0.out] at hSx; have k0 : wx.cell? ⟨w.heap.size, 2, none⟩ = some (.int .u64 s.se) := hSx.tail.tail.tail.tail.at0.cell 2; go_simp; (try with_reducible rfl))
                  (try simp only [Act.put, List.getElem_toArray, List.getElem_cons_zero, List.getElem_cons_succ, List.setIfInBounds_toArray, List.set_cons_zero, List.set_cons_succ])
                  refine wpAnyH_ready (rs := [27]) (by kernel_rfl) (by simp) ?_
                  refine (AllReadyH.cons rfl (fun K hK => ?_) AllReadyH.nil)
                  go_simp
                  go_at_call 23
                  refine (HX3.out _).mono ?_
                  rintro e vq23 ⟨rfl, rfl⟩
                  have HN := Lib.hid hHeld.out
                  refine hK.out _ _ HN (fun hH2 => ?_)
                  clear hK K hHeld 
                  have hHeld := hH2
                  clear hH2
                  (try simp only [Act.put, List.getElem_toArray, List.getElem_cons_zero, List.getElem_cons_succ, List.setIfInBounds_toArray, List.set_cons_zero, List.set_cons_succ])
                  refine wpAnyH_take (i := 28) (v := ?_) rfl (by kernel_rfl) (by kernel_rfl) (by kernel_rfl) (fun _ _ _ h => h) (Or.inl ⟨by rfl, ?_⟩) (by assumption) ?_
                  rotate_left
                  · (intro wx hSw; go_simp; (try with_reducible rfl))
                  (try simp only [Act.put, List.getElem_toArray, List.getElem_cons_zero, List.getElem_cons_succ, List.setIfInBounds_toArray, List.set_cons_zero, List.set_cons_succ])
                  refine wpAnyH_take (i := 29) (v := ?_) rfl (by kernel_rfl) (by kernel_rfl) (by kernel_rfl) (fun _ _ _ h => h) (Or.inl ⟨by rfl, ?_⟩) (by assumption) ?_
                  rotate_left
                  · (intro wx hSw; go_simp; (try with_reducible rfl))
                  (try simp only [Act.put, List.getElem_toArray, List.getElem_cons_zero, List.getElem_cons_succ, List.setIfInBounds_toArray, List.set_cons_zero, List.set_cons_succ])
                  refine wpAnyH_take (i := 30) (v := ?_) rfl (by kernel_rfl) (by kernel_rfl) (by kernel_rfl) (fun _ _ _ h => h) (Or.inl ⟨by rfl, ?_⟩) (by assumption) ?_
                  rotate_left
                  · (intro wx hSw; go_simp; (try with_reducible rfl))
                  (try simp only [Act.put, List.getElem_toArray, List.getElem_cons_zero, List.getElem_cons_succ, List.setIfInBounds_toArray, List.set_cons_zero, List.set_cons_succ])
                  refine wpAnyH_done (by kernel_rfl) ?_ _
                  have HQ9 := Lib.hid hHeld.out
                  rw [HL0.out] at HQ9
                  clear hHeld HL0
                  refine q_named ?_
                  intro Wz hWz
                  rw [hWz] at HQ9
                  clear hWz
                  have z0 : Wz.cell? ⟨p1, 0, none⟩ = some (.int .i64 x) := HQ9.out.tail.tail.at0.cell 0
                  have z1 : Wz.cell? ⟨p1, 1, none⟩ = some (.int .i64 0) := HQ9.out.tail.tail.at0.cell 1
                  have z2 : Wz.cell? ⟨w.heap.size + 1, 0, none⟩ = some (.int .i64 sec) := HQ9.out.tail.tail.tail.at0.cell 0
                  go_wp2_with fail
                  go_ret
                  exact ⟨rfl, HQ9.out.2⟩
                | false =>
                  cases d4 with
                  | true =>
                    have hs := Lib.hid hd4
                    have ya0 : W4.cell? ⟨pa, 0, none⟩ = some (.int .i64 a0) := HQ.out.at1.cell 0
                    have yb0 : W4.cell? ⟨pb, 0, none⟩ = some (.int .i64 c0) := HQ.out.at0.cell 0
                    have ya1 : W4.cell? ⟨pa, 1, none⟩ = some (.int .i64 a1) := HQ.out.at1.cell 1
                    have yb1 : W4.cell? ⟨pb, 1, none⟩ = some (.int .i64 c1) := HQ.out.at0.cell 1
                    have ya2 : W4.cell? ⟨pa, 2, none⟩ = some (.int .i64 a2) := HQ.out.at1.cell 2
                    have yb2 : W4.cell? ⟨pb, 2, none⟩ = some (.int .i64 c2) := HQ.out.at0.cell 2
                    have ya3 : W4.cell? ⟨pa, 3, none⟩ = some (.int .i64 a3) := HQ.out.at1.cell 3
                    have yb3 : W4.cell? ⟨pb, 3, none⟩ = some (.int .i64 c3) := HQ.out.at0.cell 3
                    have ya4 : W4.cell? ⟨pa, 4, none⟩ = some (.int .i64 a4) := HQ.out.at1.cell 4
                    have yb4 : W4.cell? ⟨pb, 4, none⟩ = some (.int .i64 c4) := HQ.out.at0.cell 4
                    go_wp2_with fail
                    clear ya0 yb0 ya1 yb1 ya2 yb2 ya3 yb3 ya4 yb4
                    have HX3 : Hid (∀ W, Calls Try.prog 23 #[.int .i64 0, .int .u64 s.se] W fun e w' => e = .returned (.int .i64 c5) ∧ W = w') := Lib.hid (fun W => least_fix 0 0 59 (by decide) (by decide) (Lib.hid (numLow 0 (by decide))) (Lib.hid (numHigh 0 (by decide))) s.se hok.out.1 c5 (Lib.hid (hLs.out.2.2 (Or.inr (Or.inr (Or.inr (Or.inr hs.out)))))) W)
                    obtain ⟨L0, HL0⟩ : ∃ L0 : List (Nat × TypeId × Array Value), Hid (L0 = [(pb, 35, #[.int .i64 c0, .int .i64 c1, .int .i64 c2, .int .i64 c3, .int .i64 c4, .int .i64 c5, .int .i64 c6, .int .i64 c7]), (pa, 35, #[.int .i64 a0, .int .i64 a1, .int .i64 a2, .int .i64 a3, .int .i64 a4, .int .i64 a5, .int .i64 a6, .int .i64 a7]), (p1, 24, #[.int .i64 x, .int .i64 0]), (w.heap.size + 1, 24, #[.int .i64 sec, .int .i64 ns]), (w.heap.size, 38, #[.bool false, .int .i64 dl, .int .u64 s.se, .int .u64 s.mi, .int .u64 s.ho, .int .u64 s.dom, .int .u64 s.mo, .int .u64 s.dow])]) := ⟨_, rfl⟩
                    rw [← HL0.out] at HQ
                    have HFd : Hid (Rws w W4.drew L0) := Lib.hid HQ.out.drew
                    refine wp_region_held_drew (S := fun w' => Hid (Rws w w' L0)) (by kernel_rfl) HFd (fun hHeld => ?_)
                    clear HFd HQ
                    generalize W4.drew = Wd at hHeld ⊢
                    (try simp only [Act.put, List.getElem_toArray, List.getElem_cons_zero, List.getElem_cons_succ, List.setIfInBounds_toArray, List.set_cons_zero, List.set_cons_succ])
                    refine wpAnyH_take (i := 0) (v := ?_) rfl (by kernel_rfl) (by kernel_rfl) (by kernel_rfl) (fun _ _ _ h => h) (Or.inl ⟨by rfl, ?_⟩) (by assumption) ?_
                    rotate_left
                    · (intro wx hSw; go_simp; (try with_reducible rfl))
                    (try simp only [Act.put, List.getElem_toArray, List.getElem_cons_zero, List.getElem_cons_succ, List.setIfInBounds_toArray, List.set_cons_zero, List.set_cons_succ])
                    refine wpAnyH_take (i := 1) (v := ?_) rfl (by kernel_rfl) (by kernel_rfl) (by kernel_rfl) (fun _ _ _ h => h) (Or.inl ⟨by rfl, ?_⟩) (by assumption) ?_
                    rotate_left
                    · (intro wx hSw; go_simp; (try with_reducible rfl))
                    (try simp only [Act.put, List.getElem_toArray, List.getElem_cons_zero, List.getElem_cons_succ, List.setIfInBounds_toArray, List.set_cons_zero, List.set_cons_succ])
                    refine wpAnyH_take (i := 2) (v := undef) rfl (by kernel_rfl) (by kernel_rfl) (by kernel_rfl) (fun _ _ _ h => h) (Or.inr ⟨by rfl, rfl⟩) (by assumption) ?_
                    (try simp only [Act.put, List.getElem_toArray, List.getElem_cons_zero, List.getElem_cons_succ, List.setIfInBounds_toArray, List.set_cons_zero, List.set_cons_succ])
                    refine wpAnyH_take (i := 3) (v := undef) rfl (by kernel_rfl) (by kernel_rfl) (by kernel_rfl) (fun _ _ _ h => h) (Or.inr ⟨by rfl, rfl⟩) (by assumption) ?_
                    (try simp only [Act.put, List.getElem_toArray, List.getElem_cons_zero, List.getElem_cons_succ, List.setIfInBounds_toArray, List.set_cons_zero, List.set_cons_succ])
                    refine wpAnyH_take (i := 4) (v := undef) rfl (by kernel_rfl) (by kernel_rfl) (by kernel_rfl) (fun _ _ _ h => h) (Or.inr ⟨by rfl, rfl⟩) (by assumption) ?_
                    (try simp only [Act.put, List.getElem_toArray, List.getElem_cons_zero, List.getElem_cons_succ, List.setIfInBounds_toArray, List.set_cons_zero, List.set_cons_succ])
                    refine wpAnyH_take (i := 5) (v := undef) rfl (by kernel_rfl) (by kernel_rfl) (by kernel_rfl) (fun _ _ _ h => h) (Or.inr ⟨by rfl, rfl⟩) (by assumption) ?_
                    (try simp only [Act.put, List.getElem_toArray, List.getElem_cons_zero, List.getElem_cons_succ, List.setIfInBounds_toArray, List.set_cons_zero, List.set_cons_succ])
                    refine wpAnyH_take (i := 6) (v := undef) rfl (by kernel_rfl) (by kernel_rfl) (by kernel_rfl) (fun _ _ _ h => h) (Or.inr ⟨by rfl, rfl⟩) (by assumption) ?_
                    (try simp only [Act.put, List.getElem_toArray, List.getElem_cons_zero, List.getElem_cons_succ, List.setIfInBounds_toArray, List.set_cons_zero, List.set_cons_succ])
                    refine wpAnyH_take (i := 7) (v := undef) rfl (by kernel_rfl) (by kernel_rfl) (by kernel_rfl) (fun _ _ _ h => h) (Or.inr ⟨by rfl, rfl⟩) (by assumption) ?_
                    (try simp only [Act.put, List.getElem_toArray, List.getElem_cons_zero, List.getElem_cons_succ, List.setIfInBounds_toArray, List.set_cons_zero, List.set_cons_succ])
                    refine wpAnyH_take (i := 8) (v := ?_) rfl (by kernel_rfl) (by kernel_rfl) (by kernel_rfl) (fun _ _ _ h => h) (Or.inl ⟨by rfl, ?_⟩) (by assumption) ?_
                    rotate_left
                    · (intro wx hSw; go_simp; (try with_reducible rfl))
                    (try simp only [Act.put, List.getElem_toArray, List.getElem_cons_zero, List.getElem_cons_succ, List.setIfInBounds_toArray, List.set_cons_zero, List.set_cons_succ])
                    refine wpAnyH_take (i := 9) (v := ?_) rfl (by kernel_rfl) (by kernel_rfl) (by kernel_rfl) (fun _ _ _ h => h) (Or.inl ⟨by rfl, ?_⟩) (by assumption) ?_
                    rotate_left
                    · (intro wx hSw; go_simp; (try with_reducible rfl))
                    (try simp only [Act.put, List.getElem_toArray, List.getElem_cons_zero, List.getElem_cons_succ, List.setIfInBounds_toArray, List.set_cons_zero, List.set_cons_succ])
                    refine wpAnyH_take (i := 10) (v := ?_) rfl (by kernel_rfl) (by kernel_rfl) (by kernel_rfl) (fun _ _ _ h => h) (Or.inl ⟨by rfl, ?_⟩) (by assumption) ?_
                    rotate_left
                    · (intro wx hSw; go_simp; (try with_reducible rfl))
                    (try simp only [Act.put, List.getElem_toArray, List.getElem_cons_zero, List.getElem_cons_succ, List.setIfInBounds_toArray, List.set_cons_zero, List.set_cons_succ])
                    refine wpAnyH_take (i := 11) (v := ?_) rfl (by kernel_rfl) (by kernel_rfl) (by kernel_rfl) (fun _ _ _ h => h) (Or.inl ⟨by rfl, ?_⟩) (by assumption) ?_
                    rotate_left
                    · (intro wx hSw; go_simp; (try with_reducible rfl))
                    (try simp only [Act.put, List.getElem_toArray, List.getElem_cons_zero, List.getElem_cons_succ, List.setIfInBounds_toArray, List.set_cons_zero, List.set_cons_succ])
                    refine wpAnyH_take (i := 12) (v := undef) rfl (by kernel_rfl) (by kernel_rfl) (by kernel_rfl) (fun _ _ _ h => h) (Or.inr ⟨by rfl, rfl⟩) (by assumption) ?_
                    (try simp only [Act.put, List.getElem_toArray, List.getElem_cons_zero, List.getElem_cons_succ, List.setIfInBounds_toArray, List.set_cons_zero, List.set_cons_succ])
                    refine wpAnyH_take (i := 13) (v := undef) rfl (by kernel_rfl) (by kernel_rfl) (by kernel_rfl) (fun _ _ _ h => h) (Or.inr ⟨by rfl, rfl⟩) (by assumption) ?_
                    (try simp only [Act.put, List.getElem_toArray, List.getElem_cons_zero, List.getElem_cons_succ, List.setIfInBounds_toArray, List.set_cons_zero, List.set_cons_succ])
                    refine wpAnyH_take (i := 14) (v := undef) rfl (by kernel_rfl) (by kernel_rfl) (by kernel_rfl) (fun _ _ _ h => h) (Or.inr ⟨by rfl, rfl⟩) (by assumption) ?_
                    (try simp only [Act.put, List.getElem_toArray, List.getElem_cons_zero, List.getElem_cons_succ, List.setIfInBounds_toArray, List.set_cons_zero, List.set_cons_succ])
                    refine wpAnyH_take (i := 15) (v := undef) rfl (by kernel_rfl) (by kernel_rfl) (by kernel_rfl) (fun _ _ _ h => h) (Or.inr ⟨by rfl, rfl⟩) (by assumption) ?_
                    (try simp only [Act.put, List.getElem_toArray, List.getElem_cons_zero, List.getElem_cons_succ, List.setIfInBounds_toArray, List.set_cons_zero, List.set_cons_succ])
                    refine wpAnyH_take (i := 16) (v := undef) rfl (by kernel_rfl) (by kernel_rfl) (by kernel_rfl) (fun _ _ _ h => h) (Or.inr ⟨by rfl, rfl⟩) (by assumption) ?_
                    (try simp only [Act.put, List.getElem_toArray, List.getElem_cons_zero, List.getElem_cons_succ, List.setIfInBounds_toArray, List.set_cons_zero, List.set_cons_succ])
                    refine wpAnyH_take (i := 17) (v := undef) rfl (by kernel_rfl) (by kernel_rfl) (by kernel_rfl) (fun _ _ _ h => h) (Or.inr ⟨by rfl, rfl⟩) (by assumption) ?_
                    (try simp only [Act.put, List.getElem_toArray, List.getElem_cons_zero, List.getElem_cons_succ, List.setIfInBounds_toArray, List.set_cons_zero, List.set_cons_succ])
                    refine wpAnyH_take (i := 18) (v := ?_) rfl (by kernel_rfl) (by kernel_rfl) (by kernel_rfl) (fun _ _ _ h => h) (Or.inl ⟨by rfl, ?_⟩) (by assumption) ?_
                    rotate_left
                    · (intro wx hSw; go_simp; (try with_reducible rfl))
                    (try simp only [Act.put, List.getElem_toArray, List.getElem_cons_zero, List.getElem_cons_succ, List.setIfInBounds_toArray, List.set_cons_zero, List.set_cons_succ])
                    refine wpAnyH_take (i := 19) (v := ?_) rfl (by kernel_rfl) (by kernel_rfl) (by kernel_rfl) (fun _ _ _ h => h) (Or.inl ⟨by rfl, ?_⟩) (by assumption) ?_
                    rotate_left
                    · (intro wx hSw; go_simp; (try with_reducible rfl))
                    (try simp only [Act.put, List.getElem_toArray, List.getElem_cons_zero, List.getElem_cons_succ, List.setIfInBounds_toArray, List.set_cons_zero, List.set_cons_succ])
                    refine wpAnyH_take (i := 20) (v := ?_) rfl (by kernel_rfl) (by kernel_rfl) (by kernel_rfl) (fun _ _ _ h => h) (Or.inl ⟨by rfl, ?_⟩) (by assumption) ?_
                    rotate_left
                    · (intro wx hSw; go_simp; (try with_reducible rfl))
                    (try simp only [Act.put, List.getElem_toArray, List.getElem_cons_zero, List.getElem_cons_succ, List.setIfInBounds_toArray, List.set_cons_zero, List.set_cons_succ])
                    refine wpAnyH_take (i := 21) (v := ?_) rfl (by kernel_rfl) (by kernel_rfl) (by kernel_rfl) (fun _ _ _ h => h) (Or.inl ⟨by rfl, ?_⟩) (by assumption) ?_
                    rotate_left
                    · (intro wx hSw; go_simp; (try with_reducible rfl))
                    (try simp only [Act.put, List.getElem_toArray, List.getElem_cons_zero, List.getElem_cons_succ, List.setIfInBounds_toArray, List.set_cons_zero, List.set_cons_succ])
                    refine wpAnyH_take (i := 22) (v := ?_) rfl (by kernel_rfl) (by kernel_rfl) (by kernel_rfl) (fun _ _ _ h => h) (Or.inl ⟨by rfl, ?_⟩) (by assumption) ?_
                    rotate_left
                    · (intro wx hSw; go_simp; (try with_reducible rfl))
                    (try simp only [Act.put, List.getElem_toArray, List.getElem_cons_zero, List.getElem_cons_succ, List.setIfInBounds_toArray, List.set_cons_zero, List.set_cons_succ])
                    refine wpAnyH_take (i := 23) (v := ?_) rfl (by kernel_rfl) (by kernel_rfl) (by kernel_rfl) (fun _ _ _ h => h) (Or.inl ⟨by rfl, ?_⟩) (by assumption) ?_
                    rotate_left
                    · (intro wx hSw; go_simp; (try with_reducible rfl))
                    (try simp only [Act.put, List.getElem_toArray, List.getElem_cons_zero, List.getElem_cons_succ, List.setIfInBounds_toArray, List.set_cons_zero, List.set_cons_succ])
                    refine wpAnyH_take (i := 24) (v := ?_) rfl (by kernel_rfl) (by kernel_rfl) (by kernel_rfl) (fun _ _ _ h => h) (Or.inl ⟨by rfl, ?_⟩) (by assumption) ?_
                    rotate_left
                    · (intro wx hSw; have hSx := hSw.out; rw [HL0.out] at hSx; have k0 : wx.cell? ⟨pb, 5, none⟩ = some (.int .i64 c5) := hSx.at0.cell 5; go_simp; (try with_reducible rfl))
                    (try simp only [Act.put, List.getElem_toArray, List.getElem_cons_zero, List.getElem_cons_succ, List.setIfInBounds_toArray, List.set_cons_zero, List.set_cons_succ])
                    refine wpAnyH_take (i := 25) (v := ?_) rfl (by kernel_rfl) (by kernel_rfl) (by kernel_rfl) (fun _ _ _ h => h) (Or.inl ⟨by rfl, ?_⟩) (by assumption) ?_
                    rotate_left
                    · (intro wx hSw; go_simp; (try with_reducible rfl))
                    (try simp only [Act.put, List.getElem_toArray, List.getElem_cons_zero, List.getElem_cons_succ, List.setIfInBounds_toArray, List.set_cons_zero, List.set_cons_succ])
                    refine wpAnyH_take (i := 26) (v := ?_) rfl (by kernel_rfl) (by kernel_rfl) (by kernel_rfl) (fun _ _ _ h => h) (Or.inl ⟨by rfl, ?_⟩) (by assumption) ?_
                    rotate_left
                    · (intro wx hSw; have hSx := hSw.out; rw [HL0.out] at hSx; have k0 : wx.cell? ⟨w.heap.size, 2, none⟩ = some (.int .u64 s.se) := hSx.tail.tail.tail.tail.at0.cell 2; go_simp; (try with_reducible rfl))
                    (try simp only [Act.put, List.getElem_toArray, List.getElem_cons_zero, List.getElem_cons_succ, List.setIfInBounds_toArray, List.set_cons_zero, List.set_cons_succ])
                    refine wpAnyH_ready (rs := [27]) (by kernel_rfl) (by simp) ?_
                    refine (AllReadyH.cons rfl (fun K hK => ?_) AllReadyH.nil)
                    go_simp
                    go_at_call 23
                    refine (HX3.out _).mono ?_
                    rintro e vq23 ⟨rfl, rfl⟩
                    have HN := Lib.hid hHeld.out
                    refine hK.out _ _ HN (fun hH2 => ?_)
                    clear hK K hHeld 
                    have hHeld := hH2
                    clear hH2
                    (try simp only [Act.put, List.getElem_toArray, List.getElem_cons_zero, List.getElem_cons_succ, List.setIfInBounds_toArray, List.set_cons_zero, List.set_cons_succ])
                    refine wpAnyH_take (i := 28) (v := ?_) rfl (by kernel_rfl) (by kernel_rfl) (by kernel_rfl) (fun _ _ _ h => h) (Or.inl ⟨by rfl, ?_⟩) (by assumption) ?_
                    rotate_left
                    · (intro wx hSw; go_simp; (try with_reducible rfl))
                    (try simp only [Act.put, List.getElem_toArray, List.getElem_cons_zero, List.getElem_cons_succ, List.setIfInBounds_toArray, List.set_cons_zero, List.set_cons_succ])
                    refine wpAnyH_take (i := 29) (v := ?_) rfl (by kernel_rfl) (by kernel_rfl) (by kernel_rfl) (fun _ _ _ h => h) (Or.inl ⟨by rfl, ?_⟩) (by assumption) ?_
                    rotate_left
                    · (intro wx hSw; go_simp; (try with_reducible rfl))
                    (try simp only [Act.put, List.getElem_toArray, List.getElem_cons_zero, List.getElem_cons_succ, List.setIfInBounds_toArray, List.set_cons_zero, List.set_cons_succ])
                    refine wpAnyH_take (i := 30) (v := ?_) rfl (by kernel_rfl) (by kernel_rfl) (by kernel_rfl) (fun _ _ _ h => h) (Or.inl ⟨by rfl, ?_⟩) (by assumption) ?_
                    rotate_left
                    · (intro wx hSw; go_simp; (try with_reducible rfl))
                    (try simp only [Act.put, List.getElem_toArray, List.getElem_cons_zero, List.getElem_cons_succ, List.setIfInBounds_toArray, List.set_cons_zero, List.set_cons_succ])
                    refine wpAnyH_done (by kernel_rfl) ?_ _
                    have HQ9 := Lib.hid hHeld.out
                    rw [HL0.out] at HQ9
                    clear hHeld HL0
                    refine q_named ?_
                    intro Wz hWz
                    rw [hWz] at HQ9
                    clear hWz
                    have z0 : Wz.cell? ⟨p1, 0, none⟩ = some (.int .i64 x) := HQ9.out.tail.tail.at0.cell 0
                    have z1 : Wz.cell? ⟨p1, 1, none⟩ = some (.int .i64 0) := HQ9.out.tail.tail.at0.cell 1
                    have z2 : Wz.cell? ⟨w.heap.size + 1, 0, none⟩ = some (.int .i64 sec) := HQ9.out.tail.tail.tail.at0.cell 0
                    go_wp2_with fail
                    go_ret
                    exact ⟨rfl, HQ9.out.2⟩
                  | false =>
                    have ya0 : W4.cell? ⟨pa, 0, none⟩ = some (.int .i64 a0) := HQ.out.at1.cell 0
                    have yb0 : W4.cell? ⟨pb, 0, none⟩ = some (.int .i64 c0) := HQ.out.at0.cell 0
                    have ya1 : W4.cell? ⟨pa, 1, none⟩ = some (.int .i64 a1) := HQ.out.at1.cell 1
                    have yb1 : W4.cell? ⟨pb, 1, none⟩ = some (.int .i64 c1) := HQ.out.at0.cell 1
                    have ya2 : W4.cell? ⟨pa, 2, none⟩ = some (.int .i64 a2) := HQ.out.at1.cell 2
                    have yb2 : W4.cell? ⟨pb, 2, none⟩ = some (.int .i64 c2) := HQ.out.at0.cell 2
                    have ya3 : W4.cell? ⟨pa, 3, none⟩ = some (.int .i64 a3) := HQ.out.at1.cell 3
                    have yb3 : W4.cell? ⟨pb, 3, none⟩ = some (.int .i64 c3) := HQ.out.at0.cell 3
                    have ya4 : W4.cell? ⟨pa, 4, none⟩ = some (.int .i64 a4) := HQ.out.at1.cell 4
                    have yb4 : W4.cell? ⟨pb, 4, none⟩ = some (.int .i64 c4) := HQ.out.at0.cell 4
                    go_wp2_with fail
                    clear ya0 yb0 ya1 yb1 ya2 yb2 ya3 yb3 ya4 yb4
                    obtain ⟨L0, HL0⟩ : ∃ L0 : List (Nat × TypeId × Array Value), Hid (L0 = [(pb, 35, #[.int .i64 c0, .int .i64 c1, .int .i64 c2, .int .i64 c3, .int .i64 c4, .int .i64 c5, .int .i64 c6, .int .i64 c7]), (pa, 35, #[.int .i64 a0, .int .i64 a1, .int .i64 a2, .int .i64 a3, .int .i64 a4, .int .i64 a5, .int .i64 a6, .int .i64 a7]), (p1, 24, #[.int .i64 x, .int .i64 0]), (w.heap.size + 1, 24, #[.int .i64 sec, .int .i64 ns]), (w.heap.size, 38, #[.bool false, .int .i64 dl, .int .u64 s.se, .int .u64 s.mi, .int .u64 s.ho, .int .u64 s.dom, .int .u64 s.mo, .int .u64 s.dow])]) := ⟨_, rfl⟩
                    rw [← HL0.out] at HQ
                    have HFd : Hid (Rws w W4.drew L0) := Lib.hid HQ.out.drew
                    refine wp_region_held_drew (S := fun w' => Hid (Rws w w' L0)) (by kernel_rfl) HFd (fun hHeld => ?_)
                    clear HFd HQ
                    generalize W4.drew = Wd at hHeld ⊢
                    (try simp only [Act.put, List.getElem_toArray, List.getElem_cons_zero, List.getElem_cons_succ, List.setIfInBounds_toArray, List.set_cons_zero, List.set_cons_succ])
                    refine wpAnyH_take (i := 0) (v := ?_) rfl (by kernel_rfl) (by kernel_rfl) (by kernel_rfl) (fun _ _ _ h => h) (Or.inl ⟨by rfl, ?_⟩) (by assumption) ?_
                    rotate_left
                    · (intro wx hSw; go_simp; (try with_reducible rfl))
                    (try simp only [Act.put, List.getElem_toArray, List.getElem_cons_zero, List.getElem_cons_succ, List.setIfInBounds_toArray, List.set_cons_zero, List.set_cons_succ])
                    refine wpAnyH_take (i := 1) (v := ?_) rfl (by kernel_rfl) (by kernel_rfl) (by kernel_rfl) (fun _ _ _ h => h) (Or.inl ⟨by rfl, ?_⟩) (by assumption) ?_
                    rotate_left
                    · (intro wx hSw; go_simp; (try with_reducible rfl))
                    (try simp only [Act.put, List.getElem_toArray, List.getElem_cons_zero, List.getElem_cons_succ, List.setIfInBounds_toArray, List.set_cons_zero, List.set_cons_succ])
                    refine wpAnyH_take (i := 2) (v := undef) rfl (by kernel_rfl) (by kernel_rfl) (by kernel_rfl) (fun _ _ _ h => h) (Or.inr ⟨by rfl, rfl⟩) (by assumption) ?_
                    (try simp only [Act.put, List.getElem_toArray, List.getElem_cons_zero, List.getElem_cons_succ, List.setIfInBounds_toArray, List.set_cons_zero, List.set_cons_succ])
                    refine wpAnyH_take (i := 3) (v := undef) rfl (by kernel_rfl) (by kernel_rfl) (by kernel_rfl) (fun _ _ _ h => h) (Or.inr ⟨by rfl, rfl⟩) (by assumption) ?_
                    (try simp only [Act.put, List.getElem_toArray, List.getElem_cons_zero, List.getElem_cons_succ, List.setIfInBounds_toArray, List.set_cons_zero, List.set_cons_succ])
                    refine wpAnyH_take (i := 4) (v := undef) rfl (by kernel_rfl) (by kernel_rfl) (by kernel_rfl) (fun _ _ _ h => h) (Or.inr ⟨by rfl, rfl⟩) (by assumption) ?_
                    (try simp only [Act.put, List.getElem_toArray, List.getElem_cons_zero, List.getElem_cons_succ, List.setIfInBounds_toArray, List.set_cons_zero, List.set_cons_succ])
                    refine wpAnyH_take (i := 5) (v := undef) rfl (by kernel_rfl) (by kernel_rfl) (by kernel_rfl) (fun _ _ _ h => h) (Or.inr ⟨by rfl, rfl⟩) (by assumption) ?_
                    (try simp only [Act.put, List.getElem_toArray, List.getElem_cons_zero, List.getElem_cons_succ, List.setIfInBounds_toArray, List.set_cons_zero, List.set_cons_succ])
                    refine wpAnyH_take (i := 6) (v := undef) rfl (by kernel_rfl) (by kernel_rfl) (by kernel_rfl) (fun _ _ _ h => h) (Or.inr ⟨by rfl, rfl⟩) (by assumption) ?_
                    (try simp only [Act.put, List.getElem_toArray, List.getElem_cons_zero, List.getElem_cons_succ, List.setIfInBounds_toArray, List.set_cons_zero, List.set_cons_succ])
                    refine wpAnyH_take (i := 7) (v := undef) rfl (by kernel_rfl) (by kernel_rfl) (by kernel_rfl) (fun _ _ _ h => h) (Or.inr ⟨by rfl, rfl⟩) (by assumption) ?_
                    (try simp only [Act.put, List.getElem_toArray, List.getElem_cons_zero, List.getElem_cons_succ, List.setIfInBounds_toArray, List.set_cons_zero, List.set_cons_succ])
                    refine wpAnyH_take (i := 8) (v := ?_) rfl (by kernel_rfl) (by kernel_rfl) (by kernel_rfl) (fun _ _ _ h => h) (Or.inl ⟨by rfl, ?_⟩) (by assumption) ?_
                    rotate_left
                    · (intro wx hSw; go_simp; (try with_reducible rfl))
                    (try simp only [Act.put, List.getElem_toArray, List.getElem_cons_zero, List.getElem_cons_succ, List.setIfInBounds_toArray, List.set_cons_zero, List.set_cons_succ])
                    refine wpAnyH_take (i := 9) (v := ?_) rfl (by kernel_rfl) (by kernel_rfl) (by kernel_rfl) (fun _ _ _ h => h) (Or.inl ⟨by rfl, ?_⟩) (by assumption) ?_
                    rotate_left
                    · (intro wx hSw; go_simp; (try with_reducible rfl))
                    (try simp only [Act.put, List.getElem_toArray, List.getElem_cons_zero, List.getElem_cons_succ, List.setIfInBounds_toArray, List.set_cons_zero, List.set_cons_succ])
                    refine wpAnyH_take (i := 10) (v := ?_) rfl (by kernel_rfl) (by kernel_rfl) (by kernel_rfl) (fun _ _ _ h => h) (Or.inl ⟨by rfl, ?_⟩) (by assumption) ?_
                    rotate_left
                    · (intro wx hSw; go_simp; (try with_reducible rfl))
                    (try simp only [Act.put, List.getElem_toArray, List.getElem_cons_zero, List.getElem_cons_succ, List.setIfInBounds_toArray, List.set_cons_zero, List.set_cons_succ])
                    refine wpAnyH_take (i := 11) (v := ?_) rfl (by kernel_rfl) (by kernel_rfl) (by kernel_rfl) (fun _ _ _ h => h) (Or.inl ⟨by rfl, ?_⟩) (by assumption) ?_
                    rotate_left
                    · (intro wx hSw; go_simp; (try with_reducible rfl))
                    (try simp only [Act.put, List.getElem_toArray, List.getElem_cons_zero, List.getElem_cons_succ, List.setIfInBounds_toArray, List.set_cons_zero, List.set_cons_succ])
                    refine wpAnyH_take (i := 12) (v := undef) rfl (by kernel_rfl) (by kernel_rfl) (by kernel_rfl) (fun _ _ _ h => h) (Or.inr ⟨by rfl, rfl⟩) (by assumption) ?_
                    (try simp only [Act.put, List.getElem_toArray, List.getElem_cons_zero, List.getElem_cons_succ, List.setIfInBounds_toArray, List.set_cons_zero, List.set_cons_succ])
                    refine wpAnyH_take (i := 13) (v := undef) rfl (by kernel_rfl) (by kernel_rfl) (by kernel_rfl) (fun _ _ _ h => h) (Or.inr ⟨by rfl, rfl⟩) (by assumption) ?_
                    (try simp only [Act.put, List.getElem_toArray, List.getElem_cons_zero, List.getElem_cons_succ, List.setIfInBounds_toArray, List.set_cons_zero, List.set_cons_succ])
                    refine wpAnyH_take (i := 14) (v := undef) rfl (by kernel_rfl) (by kernel_rfl) (by kernel_rfl) (fun _ _ _ h => h) (Or.inr ⟨by rfl, rfl⟩) (by assumption) ?_
                    (try simp only [Act.put, List.getElem_toArray, List.getElem_cons_zero, List.getElem_cons_succ, List.setIfInBounds_toArray, List.set_cons_zero, List.set_cons_succ])
                    refine wpAnyH_take (i := 15) (v := undef) rfl (by kernel_rfl) (by kernel_rfl) (by kernel_rfl) (fun _ _ _ h => h) (Or.inr ⟨by rfl, rfl⟩) (by assumption) ?_
                    (try simp only [Act.put, List.getElem_toArray, List.getElem_cons_zero, List.getElem_cons_succ, List.setIfInBounds_toArray, List.set_cons_zero, List.set_cons_succ])
                    refine wpAnyH_take (i := 16) (v := undef) rfl (by kernel_rfl) (by kernel_rfl) (by kernel_rfl) (fun _ _ _ h => h) (Or.inr ⟨by rfl, rfl⟩) (by assumption) ?_
                    (try simp only [Act.put, List.getElem_toArray, List.getElem_cons_zero, List.getElem_cons_succ, List.setIfInBounds_toArray, List.set_cons_zero, List.set_cons_succ])
                    refine wpAnyH_take (i := 17) (v := undef) rfl (by kernel_rfl) (by kernel_rfl) (by kernel_rfl) (fun _ _ _ h => h) (Or.inr ⟨by rfl, rfl⟩) (by assumption) ?_
                    (try simp only [Act.put, List.getElem_toArray, List.getElem_cons_zero, List.getElem_cons_succ, List.setIfInBounds_toArray, List.set_cons_zero, List.set_cons_succ])
                    refine wpAnyH_take (i := 18) (v := ?_) rfl (by kernel_rfl) (by kernel_rfl) (by kernel_rfl) (fun _ _ _ h => h) (Or.inl ⟨by rfl, ?_⟩) (by assumption) ?_
                    rotate_left
                    · (intro wx hSw; go_simp; (try with_reducible rfl))
                    (try simp only [Act.put, List.getElem_toArray, List.getElem_cons_zero, List.getElem_cons_succ, List.setIfInBounds_toArray, List.set_cons_zero, List.set_cons_succ])
                    refine wpAnyH_take (i := 19) (v := ?_) rfl (by kernel_rfl) (by kernel_rfl) (by kernel_rfl) (fun _ _ _ h => h) (Or.inl ⟨by rfl, ?_⟩) (by assumption) ?_
                    rotate_left
                    · (intro wx hSw; go_simp; (try with_reducible rfl))
                    (try simp only [Act.put, List.getElem_toArray, List.getElem_cons_zero, List.getElem_cons_succ, List.setIfInBounds_toArray, List.set_cons_zero, List.set_cons_succ])
                    refine wpAnyH_take (i := 20) (v := ?_) rfl (by kernel_rfl) (by kernel_rfl) (by kernel_rfl) (fun _ _ _ h => h) (Or.inl ⟨by rfl, ?_⟩) (by assumption) ?_
                    rotate_left
                    · (intro wx hSw; go_simp; (try with_reducible rfl))
                    (try simp only [Act.put, List.getElem_toArray, List.getElem_cons_zero, List.getElem_cons_succ, List.setIfInBounds_toArray, List.set_cons_zero, List.set_cons_succ])
                    refine wpAnyH_take (i := 21) (v := ?_) rfl (by kernel_rfl) (by kernel_rfl) (by kernel_rfl) (fun _ _ _ h => h) (Or.inl ⟨by rfl, ?_⟩) (by assumption) ?_
                    rotate_left
                    · (intro wx hSw; go_simp; (try with_reducible rfl))
                    (try simp only [Act.put, List.getElem_toArray, List.getElem_cons_zero, List.getElem_cons_succ, List.setIfInBounds_toArray, List.set_cons_zero, List.set_cons_succ])
                    refine wpAnyH_take (i := 22) (v := ?_) rfl (by kernel_rfl) (by kernel_rfl) (by kernel_rfl) (fun _ _ _ h => h) (Or.inl ⟨by rfl, ?_⟩) (by assumption) ?_
                    rotate_left
                    · (intro wx hSw; go_simp; (try with_reducible rfl))
                    (try simp only [Act.put, List.getElem_toArray, List.getElem_cons_zero, List.getElem_cons_succ, List.setIfInBounds_toArray, List.set_cons_zero, List.set_cons_succ])
                    refine wpAnyH_take (i := 23) (v := undef) rfl (by kernel_rfl) (by kernel_rfl) (by kernel_rfl) (fun _ _ _ h => h) (Or.inr ⟨by rfl, rfl⟩) (by assumption) ?_
                    (try simp only [Act.put, List.getElem_toArray, List.getElem_cons_zero, List.getElem_cons_succ, List.setIfInBounds_toArray, List.set_cons_zero, List.set_cons_succ])
                    refine wpAnyH_take (i := 24) (v := undef) rfl (by kernel_rfl) (by kernel_rfl) (by kernel_rfl) (fun _ _ _ h => h) (Or.inr ⟨by rfl, rfl⟩) (by assumption) ?_
                    (try simp only [Act.put, List.getElem_toArray, List.getElem_cons_zero, List.getElem_cons_succ, List.setIfInBounds_toArray, List.set_cons_zero, List.set_cons_succ])
                    refine wpAnyH_take (i := 25) (v := undef) rfl (by kernel_rfl) (by kernel_rfl) (by kernel_rfl) (fun _ _ _ h => h) (Or.inr ⟨by rfl, rfl⟩) (by assumption) ?_
                    (try simp only [Act.put, List.getElem_toArray, List.getElem_cons_zero, List.getElem_cons_succ, List.setIfInBounds_toArray, List.set_cons_zero, List.set_cons_succ])
                    refine wpAnyH_take (i := 26) (v := undef) rfl (by kernel_rfl) (by kernel_rfl) (by kernel_rfl) (fun _ _ _ h => h) (Or.inr ⟨by rfl, rfl⟩) (by assumption) ?_
                    (try simp only [Act.put, List.getElem_toArray, List.getElem_cons_zero, List.getElem_cons_succ, List.setIfInBounds_toArray, List.set_cons_zero, List.set_cons_succ])
                    refine wpAnyH_take (i := 27) (v := undef) rfl (by kernel_rfl) (by kernel_rfl) (by kernel_rfl) (fun _ _ _ h => h) (Or.inr ⟨by rfl, rfl⟩) (by assumption) ?_
                    (try simp only [Act.put, List.getElem_toArray, List.getElem_cons_zero, List.getElem_cons_succ, List.setIfInBounds_toArray, List.set_cons_zero, List.set_cons_succ])
                    refine wpAnyH_take (i := 28) (v := undef) rfl (by kernel_rfl) (by kernel_rfl) (by kernel_rfl) (fun _ _ _ h => h) (Or.inr ⟨by rfl, rfl⟩) (by assumption) ?_
                    (try simp only [Act.put, List.getElem_toArray, List.getElem_cons_zero, List.getElem_cons_succ, List.setIfInBounds_toArray, List.set_cons_zero, List.set_cons_succ])
                    refine wpAnyH_take (i := 29) (v := ?_) rfl (by kernel_rfl) (by kernel_rfl) (by kernel_rfl) (fun _ _ _ h => h) (Or.inl ⟨by rfl, ?_⟩) (by assumption) ?_
                    rotate_left
                    · (intro wx hSw; go_simp; (try with_reducible rfl))
                    (try simp only [Act.put, List.getElem_toArray, List.getElem_cons_zero, List.getElem_cons_succ, List.setIfInBounds_toArray, List.set_cons_zero, List.set_cons_succ])
                    refine wpAnyH_take (i := 30) (v := ?_) rfl (by kernel_rfl) (by kernel_rfl) (by kernel_rfl) (fun _ _ _ h => h) (Or.inl ⟨by rfl, ?_⟩) (by assumption) ?_
                    rotate_left
                    · (intro wx hSw; go_simp; (try with_reducible rfl))
                    (try simp only [Act.put, List.getElem_toArray, List.getElem_cons_zero, List.getElem_cons_succ, List.setIfInBounds_toArray, List.set_cons_zero, List.set_cons_succ])
                    refine wpAnyH_done (by kernel_rfl) ?_ _
                    have HQ9 := Lib.hid hHeld.out
                    rw [HL0.out] at HQ9
                    clear hHeld HL0
                    refine q_named ?_
                    intro Wz hWz
                    rw [hWz] at HQ9
                    clear hWz
                    have z0 : Wz.cell? ⟨p1, 0, none⟩ = some (.int .i64 x) := HQ9.out.tail.tail.at0.cell 0
                    have z1 : Wz.cell? ⟨p1, 1, none⟩ = some (.int .i64 0) := HQ9.out.tail.tail.at0.cell 1
                    have z2 : Wz.cell? ⟨w.heap.size + 1, 0, none⟩ = some (.int .i64 sec) := HQ9.out.tail.tail.tail.at0.cell 0
                    go_wp2_with fail
                    go_ret
                    exact ⟨rfl, HQ9.out.2⟩

end Go.Proofs.Ytpgclepiagfgfaa
