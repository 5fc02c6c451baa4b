/- spec.CronCivil over zones; laws.zzFits1, spec.GoodZone. -/
import Derived.Test.YtpgclepiagfgfaaTzH
namespace Go.Proofs.Ytpgclepiagfgfaa
open Go.RowKit
set_option linter.unusedVariables false
set_option linter.unusedSimpArgs false

def AnyB (w : World) (e : Ending) (w' : World) : Prop := ∃ b, e = .returned (.bool b) ∧ Below w.heap.size w w'
def GoodZ (offs : List Int) (dsts : List Bool) (whens idxs : List Int) (w : World) (e : Ending) (w' : World) : Prop := ∃ b, e = .returned (.bool b) ∧ (b = true → ZOk offs dsts whens idxs) ∧ Below w.heap.size w w'
set_option maxRecDepth 100000 in
set_option maxHeartbeats 8000000 in
theorem cronCivilZ_any (zv : Value) (offs : List Int) (dsts : List Bool) (whens idxs : List Int) (hok : Hid (ZOk offs dsts whens idxs)) (sec off : Int) (ns : Nat) (hn : ns < 1000000000) (h0 : -62135596800 ≤ sec) (h1 : sec ≤ 259000000000) (ho : Hid (OffP offs dsts whens idxs sec off)) (w : World) (hz : Hid (ZoneAt w zv offs dsts whens idxs)) :
    Calls Try.prog 15 #[.agg #[.int .i64 sec, .int .i64 ns], zv] w fun e w' => e = .returned (.agg (civV (sec + off) ns)) ∧ Below w.heap.size w w' := by
  have HZ0 := hz.out
  have hob := hok.out.off ho.out
  obtain ⟨c0, c1, c2, c3, c4, c5, c6, c7, HC⟩ : ∃ c0 c1 c2 c3 c4 c5 c6 c7, Hid (civV (sec + off) ns = #[.int .i64 c0, .int .i64 c1, .int .i64 c2, .int .i64 c3, .int .i64 c4, .int .i64 c5, .int .i64 c6, .int .i64 c7]) := ⟨_, _, _, _, _, _, _, _, Lib.hid rfl⟩
  have HCL : Hid (∀ W, Calls Try.prog 37 #[.int .i64 (sec + off), .int .i64 ns] W fun e w' => e = .returned (.agg #[.int .i64 c0, .int .i64 c1, .int .i64 c2, .int .i64 c3, .int .i64 c4, .int .i64 c5, .int .i64 c6, .int .i64 c7]) ∧ Below W.heap.size W w') := Lib.hid (fun W => by rw [← HC.out]; exact cronClockD_any (sec + off) ns (by omega) (by omega) W)
  rw [HC.out]
  clear HC
  obtain ⟨vo, vd, vw, vi, rfl, s1, s2, s3, s4⟩ := HZ0
  obtain ⟨ao, co, rfl⟩ := s1.len
  obtain ⟨ad, cd, rfl⟩ := s2.len
  obtain ⟨aw, cw, rfl⟩ := s3.len
  obtain ⟨ai, ci, rfl⟩ := s4.len
  clear s1 s2 s3 s4
  go_enter Try.func15, Try.ntmps15
  go_wp2_with fail
  have HB := Lib.hid ((((rws0 w).alloc _ rfl #[.int .i64 sec, .int .i64 ns] 24).alloc (w.heap.size + 1) (by simp) #[.slice ao offs.length co, .slice ad dsts.length cd, .slice aw whens.length cw, .slice ai idxs.length ci] 29).alloc (w.heap.size + 1 + 1) (by simp) #[.int .i64 0, .int .i64 0, .int .i64 0, .int .i64 0, .int .i64 0, .int .i64 0, .int .i64 0, .int .i64 0] 35)
  refine wp_named ?_
  intro W2 hW2
  rw [hW2] at HB
  clear hW2
  have HD := Lib.hid HB.out.drew
  clear HB
  refine wp_region_held_drew (S := fun w' => Hid (Rws w w' [(w.heap.size + 1, 29, #[.slice ao offs.length co, .slice ad dsts.length cd, .slice aw whens.length cw, .slice ai idxs.length ci]), (w.heap.size, 24, #[.int .i64 sec, .int .i64 ns])])) (by kernel_rfl) (Lib.hid HD.out.tail) (fun hHeld => ?_)
  generalize W2.drew = Wd at HD hHeld ⊢
  (try simp only [Act.put, List.getElem_toArray, List.getElem_cons_zero, List.getElem_cons_succ, List.setIfInBounds_toArray, List.set_cons_zero, List.set_cons_succ])
  refine wpAnyH_take (i := 0) (v := ?_) rfl (by kernel_rfl) (by kernel_rfl) (by kernel_rfl) (fun _ _ _ h => h) (Or.inl ⟨by rfl, ?_⟩) (by assumption) ?_
  rotate_left
  · (intro wx hSw; go_simp; (try with_reducible rfl))
  (try simp only [Act.put, List.getElem_toArray, List.getElem_cons_zero, List.getElem_cons_succ, List.setIfInBounds_toArray, List.set_cons_zero, List.set_cons_succ])
  refine wpAnyH_take (i := 1) (v := ?_) rfl (by kernel_rfl) (by kernel_rfl) (by kernel_rfl) (fun _ _ _ h => h) (Or.inl ⟨by rfl, ?_⟩) (by assumption) ?_
  rotate_left
  · (intro wx hSw; have k0 : wx.cell? ⟨w.heap.size, 0, none⟩ = some (.int .i64 sec) := hSw.out.at1.cell 0; have k1 : wx.cell? ⟨w.heap.size, 1, none⟩ = some (.int .i64 ns) := hSw.out.at1.cell 1; go_simp; (try with_reducible rfl))
  (try simp only [Act.put, List.getElem_toArray, List.getElem_cons_zero, List.getElem_cons_succ, List.setIfInBounds_toArray, List.set_cons_zero, List.set_cons_succ])
  refine wpAnyH_take (i := 2) (v := ?_) rfl (by kernel_rfl) (by kernel_rfl) (by kernel_rfl) (fun _ _ _ h => h) (Or.inl ⟨by rfl, ?_⟩) (by assumption) ?_
  rotate_left
  · (intro wx hSw; have k0 : wx.cell? ⟨w.heap.size + 1, 0, none⟩ = some (.slice ao offs.length co) := hSw.out.at0.cell 0; have k1 : wx.cell? ⟨w.heap.size + 1, 1, none⟩ = some (.slice ad dsts.length cd) := hSw.out.at0.cell 1; have k2 : wx.cell? ⟨w.heap.size + 1, 2, none⟩ = some (.slice aw whens.length cw) := hSw.out.at0.cell 2; have k3 : wx.cell? ⟨w.heap.size + 1, 3, none⟩ = some (.slice ai idxs.length ci) := hSw.out.at0.cell 3; go_simp; (try with_reducible rfl))
  (try simp only [Act.put, List.getElem_toArray, List.getElem_cons_zero, List.getElem_cons_succ, List.setIfInBounds_toArray, List.set_cons_zero, List.set_cons_succ])
  refine wpAnyH_take (i := 3) (v := ?_) rfl (by kernel_rfl) (by kernel_rfl) (by kernel_rfl) (fun _ _ _ h => h) (Or.inl ⟨by rfl, ?_⟩) (by assumption) ?_
  rotate_left
  · (intro wx hSw; go_simp; (try with_reducible rfl))
  (try simp only [Act.put, List.getElem_toArray, List.getElem_cons_zero, List.getElem_cons_succ, List.setIfInBounds_toArray, List.set_cons_zero, List.set_cons_succ])
  refine wpAnyH_take (i := 4) (v := ?_) rfl (by kernel_rfl) (by kernel_rfl) (by kernel_rfl) (fun _ _ _ h => h) (Or.inl ⟨by rfl, ?_⟩) (by assumption) ?_
  rotate_left
  · (intro wx hSw; have k0 : wx.cell? ⟨w.heap.size, 0, none⟩ = some (.int .i64 sec) := hSw.out.at1.cell 0; have k1 : wx.cell? ⟨w.heap.size, 1, none⟩ = some (.int .i64 ns) := hSw.out.at1.cell 1; go_simp; (try with_reducible rfl))
  (try simp only [Act.put, List.getElem_toArray, List.getElem_cons_zero, List.getElem_cons_succ, List.setIfInBounds_toArray, List.set_cons_zero, List.set_cons_succ])
  refine wpAnyH_take (i := 7) (v := ?_) rfl (by kernel_rfl) (by kernel_rfl) (by kernel_rfl) (fun _ _ _ h => h) (Or.inl ⟨by rfl, ?_⟩) (by assumption) ?_
  rotate_left
  · (intro wx hSw; go_simp; (try with_reducible rfl))
  (try simp only [Act.put, List.getElem_toArray, List.getElem_cons_zero, List.getElem_cons_succ, List.setIfInBounds_toArray, List.set_cons_zero, List.set_cons_succ])
  refine wpAnyH_take (i := 8) (v := ?_) rfl (by kernel_rfl) (by kernel_rfl) (by kernel_rfl) (fun _ _ _ h => h) (Or.inl ⟨by rfl, ?_⟩) (by assumption) ?_
  rotate_left
  · (intro wx hSw; have k0 : wx.cell? ⟨w.heap.size, 0, none⟩ = some (.int .i64 sec) := hSw.out.at1.cell 0; have k1 : wx.cell? ⟨w.heap.size, 1, none⟩ = some (.int .i64 ns) := hSw.out.at1.cell 1; go_simp; (try with_reducible rfl))
  (try simp only [Act.put, List.getElem_toArray, List.getElem_cons_zero, List.getElem_cons_succ, List.setIfInBounds_toArray, List.set_cons_zero, List.set_cons_succ])
  refine wpAnyH_ready (rs := [5]) (by kernel_rfl) (by simp) ?_
  refine (AllReadyH.cons rfl (fun K hK => ?_) AllReadyH.nil)
  go_simp
  go_at_call 38
  refine (cronOffsetZ_any (.agg #[.slice ao offs.length co, .slice ad dsts.length cd, .slice aw whens.length cw, .slice ai idxs.length ci]) offs dsts whens idxs hok sec off ns hn h0 (by omega) ho _ (Lib.hid (hz.out.below HD.out.2))).mono ?_
  rintro e w5 ⟨rfl, hb⟩
  have HD5 := Lib.hid (HD.out.below hb)
  have HN := Lib.hid HD5.out.tail
  clear hb HD
  refine hK.out _ _ HN (fun hH2 => ?_)
  clear hK K hHeld 
  have hHeld := hH2
  clear hH2
  (try simp only [Act.put, List.getElem_toArray, List.getElem_cons_zero, List.getElem_cons_succ, List.setIfInBounds_toArray, List.set_cons_zero, List.set_cons_succ])
  refine wpAnyH_take (i := 6) (v := ?_) rfl (by kernel_rfl) (by kernel_rfl) (by kernel_rfl) (fun _ _ _ h => h) (Or.inl ⟨by rfl, ?_⟩) (by assumption) ?_
  rotate_left
  · (intro wx hSw; go_simp; (try with_reducible rfl))
  (try simp only [Act.put, List.getElem_toArray, List.getElem_cons_zero, List.getElem_cons_succ, List.setIfInBounds_toArray, List.set_cons_zero, List.set_cons_succ])
  rw [IntWalk.i64_in (sec + off) (by omega)]
  refine wpAnyH_ready (rs := [9]) (by kernel_rfl) (by simp) ?_
  refine (AllReadyH.cons rfl (fun K hK => ?_) AllReadyH.nil)
  go_simp
  go_at_call 37
  refine (HCL.out _).mono ?_
  rintro e w6 ⟨rfl, hb⟩
  have HD6 := Lib.hid (HD5.out.below hb)
  have HN := Lib.hid HD6.out.tail
  clear hb HD5
  refine hK.out _ _ HN (fun hH2 => ?_)
  clear hK K hHeld 
  have hHeld := hH2
  clear hH2
  (try simp only [Act.put, List.getElem_toArray, List.getElem_cons_zero, List.getElem_cons_succ, List.setIfInBounds_toArray, List.set_cons_zero, List.set_cons_succ])
  refine wpAnyH_ready (rs := [10]) (by kernel_rfl) (by simp) ?_
  refine (AllReadyH.cons rfl (fun K hK => ?_) AllReadyH.nil)
  rw [if_pos (by rfl)]
  have hT : w6.there (w.heap.size + 1 + 1) 0 8 := HD6.out.at0.thereAll
  have HE := Lib.hid (HD6.out.put8 (by intro r hr; simp at hr; rcases hr with rfl | rfl <;> (dsimp only; omega)) (by omega) (.int .i64 c0) (.int .i64 c1) (.int .i64 c2) (.int .i64 c3) (.int .i64 c4) (.int .i64 c5) (.int .i64 c6) (.int .i64 c7))
  refine wp_store_mid 35 (.tmp 4) (.tmp 14) rfl (w.heap.size + 1 + 1) 0 #[.int .i64 c0, .int .i64 c1, .int .i64 c2, .int .i64 c3, .int .i64 c4, .int .i64 c5, .int .i64 c6, .int .i64 c7] (by simp [Act.eval]) (by simp [Act.eval]) hT infoCiv (civ_one _ _ _ _ _ _ _ _) ?_
  have HN := Lib.hid HE.out.tail
  refine hK.out _ _ HN (fun _ => ?_)
  clear hK K hHeld HN hT HD6
  generalize w6.setCells (w.heap.size + 1 + 1) 0 _ = W3 at HE ⊢
  (try simp only [Act.put, List.getElem_toArray, List.getElem_cons_zero, List.getElem_cons_succ, List.setIfInBounds_toArray, List.set_cons_zero, List.set_cons_succ])
  refine wpAnyH_done (by kernel_rfl) ?_ _
  have z0 : W3.cell? ⟨w.heap.size + 1 + 1, 0, none⟩ = some (.int .i64 c0) := HE.out.at0.cell 0
  have g0 := HE.out.at0.free 0
  have z1 : W3.cell? ⟨w.heap.size + 1 + 1, 1, none⟩ = some (.int .i64 c1) := HE.out.at0.cell 1
  have g1 := HE.out.at0.free 1
  have z2 : W3.cell? ⟨w.heap.size + 1 + 1, 2, none⟩ = some (.int .i64 c2) := HE.out.at0.cell 2
  have g2 := HE.out.at0.free 2
  have z3 : W3.cell? ⟨w.heap.size + 1 + 1, 3, none⟩ = some (.int .i64 c3) := HE.out.at0.cell 3
  have g3 := HE.out.at0.free 3
  have z4 : W3.cell? ⟨w.heap.size + 1 + 1, 4, none⟩ = some (.int .i64 c4) := HE.out.at0.cell 4
  have g4 := HE.out.at0.free 4
  have z5 : W3.cell? ⟨w.heap.size + 1 + 1, 5, none⟩ = some (.int .i64 c5) := HE.out.at0.cell 5
  have g5 := HE.out.at0.free 5
  have z6 : W3.cell? ⟨w.heap.size + 1 + 1, 6, none⟩ = some (.int .i64 c6) := HE.out.at0.cell 6
  have g6 := HE.out.at0.free 6
  have z7 : W3.cell? ⟨w.heap.size + 1 + 1, 7, none⟩ = some (.int .i64 c7) := HE.out.at0.cell 7
  have g7 := HE.out.at0.free 7
  have hB := HE.out.2
  clear HE
  go_wp2_with fail
  refine bodyPost_ret (v := .agg #[.int .i64 c0, .int .i64 c1, .int .i64 c2, .int .i64 c3, .int .i64 c4, .int .i64 c5, .int .i64 c6, .int .i64 c7]) (by simp [results, Try.results15, go_sem, z0, g0, z1, g1, z2, g2, z3, g3, z4, g4, z5, g5, z6, g6, z7, g7]) rfl ⟨rfl, hB⟩

set_option maxRecDepth 100000 in
set_option maxHeartbeats 2000000 in
theorem zzFits1_any (zv : Value) (offs : List Int) (dsts : List Bool) (whens idxs : List Int) (w : World) (hz : Hid (ZoneAt w zv offs dsts whens idxs)) :
    Calls Try.prog 10 #[zv] w fun e w' => AnyB w e w' := by
  obtain ⟨vo, vd, vw, vi, rfl, s1, s2, s3, s4⟩ := hz.out
  obtain ⟨ao, co, rfl⟩ := s1.len
  obtain ⟨ad, cd, rfl⟩ := s2.len
  obtain ⟨aw, cw, rfl⟩ := s3.len
  obtain ⟨ai, ci, rfl⟩ := s4.len
  clear s1 s2 s3 s4 hz
  go_enter Try.func10, Try.ntmps10
  by_cases c0 : (2147483647 : Int) < (offs.length : Int)
  · go_wp2_with fail
    go_ret
    exact ⟨_, rfl, (by repeat (first | (with_reducible assumption) | (with_reducible exact Below.refl _ _) | (with_reducible refine Below.setCell ?_ (by first | omega | (simp <;> omega)) _) | refine below_drewN ?_ _ | refine Below.drew ?_ | refine Below.alloc ?_ (by first | omega | (simp <;> omega)) _))⟩
  · skip
    by_cases c1 : (2147483647 : Int) < (dsts.length : Int)
    · go_wp2_with fail
      go_ret
      exact ⟨_, rfl, (by repeat (first | (with_reducible assumption) | (with_reducible exact Below.refl _ _) | (with_reducible refine Below.setCell ?_ (by first | omega | (simp <;> omega)) _) | refine below_drewN ?_ _ | refine Below.drew ?_ | refine Below.alloc ?_ (by first | omega | (simp <;> omega)) _))⟩
    · skip
      by_cases c2 : (2147483647 : Int) < (whens.length : Int)
      · go_wp2_with fail
        go_ret
        exact ⟨_, rfl, (by repeat (first | (with_reducible assumption) | (with_reducible exact Below.refl _ _) | (with_reducible refine Below.setCell ?_ (by first | omega | (simp <;> omega)) _) | refine below_drewN ?_ _ | refine Below.drew ?_ | refine Below.alloc ?_ (by first | omega | (simp <;> omega)) _))⟩
      · skip
        by_cases c3 : (2147483647 : Int) < (idxs.length : Int)
        · go_wp2_with fail
          go_ret
          exact ⟨_, rfl, (by repeat (first | (with_reducible assumption) | (with_reducible exact Below.refl _ _) | (with_reducible refine Below.setCell ?_ (by first | omega | (simp <;> omega)) _) | refine below_drewN ?_ _ | refine Below.drew ?_ | refine Below.alloc ?_ (by first | omega | (simp <;> omega)) _))⟩
        · skip
          go_wp2_with fail
          go_ret
          exact ⟨_, rfl, (by repeat (first | (with_reducible assumption) | (with_reducible exact Below.refl _ _) | (with_reducible refine Below.setCell ?_ (by first | omega | (simp <;> omega)) _) | refine below_drewN ?_ _ | refine Below.drew ?_ | refine Below.alloc ?_ (by first | omega | (simp <;> omega)) _))⟩

set_option maxRecDepth 100000 in
set_option maxHeartbeats 8000000 in
theorem goodZone_any (zv : Value) (offs : List Int) (dsts : List Bool) (whens idxs : List Int) (w : World) (hz : Hid (ZoneAt w zv offs dsts whens idxs)) :
    Calls Try.prog 12 #[zv] w fun e w' => GoodZ offs dsts whens idxs w e w' := by
  obtain ⟨vo, vd, vw, vi, rfl, s1, s2, s3, s4⟩ := hz.out
  obtain ⟨ao, co, rfl, ho0⟩ := s1
  obtain ⟨ad, cd, rfl⟩ := s2.len
  obtain ⟨aw, cw, rfl, hw0⟩ := s3
  obtain ⟨ai, ci, rfl, hi0⟩ := s4
  have HOF := Lib.hid (fun k x h => inAt ho0 k x h)
  have HWN := Lib.hid (fun k x h => inAt hw0 k x h)
  have HIX := Lib.hid (fun k x h => inAt hi0 k x h)
  clear s2 ho0 hw0 hi0 hz
  go_enter Try.func12, Try.ntmps12
  by_cases c0 : offs.length = 0
  · have e0 : ((offs.length : Int) == 0) = true := by simp [c0]
    by_cases d0 : dsts.length = 0
    · have g0 : ((dsts.length : Int) == 0) = true := by simp [d0]
      by_cases d1 : whens.length = 0
      · have g1 : ((whens.length : Int) == 0) = true := by simp [d1]
        by_cases d2 : idxs.length = 0
        · have g2 : ((idxs.length : Int) == 0) = true := by simp [d2]
          go_wp2_with fail
          go_ret
          exact ⟨_, rfl, fun _ => Or.inl ⟨List.length_eq_zero_iff.1 c0, List.length_eq_zero_iff.1 d0, List.length_eq_zero_iff.1 d1, List.length_eq_zero_iff.1 d2⟩, (by repeat (first | (with_reducible assumption) | (with_reducible exact Below.refl _ _) | (with_reducible refine Below.setCell ?_ (by first | omega | (simp <;> omega)) _) | refine below_drewN ?_ _ | refine Below.drew ?_ | refine Below.alloc ?_ (by first | omega | (simp <;> omega)) _))⟩
        · have g2 : ((idxs.length : Int) == 0) = false := by simp only [beq_eq_false_iff_ne]; omega
          go_wp2_with fail
          go_ret
          exact ⟨_, rfl, (fun h => by cases h), (by repeat (first | (with_reducible assumption) | (with_reducible exact Below.refl _ _) | (with_reducible refine Below.setCell ?_ (by first | omega | (simp <;> omega)) _) | refine below_drewN ?_ _ | refine Below.drew ?_ | refine Below.alloc ?_ (by first | omega | (simp <;> omega)) _))⟩
      · have g1 : ((whens.length : Int) == 0) = false := by simp only [beq_eq_false_iff_ne]; omega
        go_wp2_with fail
        go_ret
        exact ⟨_, rfl, (fun h => by cases h), (by repeat (first | (with_reducible assumption) | (with_reducible exact Below.refl _ _) | (with_reducible refine Below.setCell ?_ (by first | omega | (simp <;> omega)) _) | refine below_drewN ?_ _ | refine Below.drew ?_ | refine Below.alloc ?_ (by first | omega | (simp <;> omega)) _))⟩
    · have g0 : ((dsts.length : Int) == 0) = false := by simp only [beq_eq_false_iff_ne]; omega
      go_wp2_with fail
      go_ret
      exact ⟨_, rfl, (fun h => by cases h), (by repeat (first | (with_reducible assumption) | (with_reducible exact Below.refl _ _) | (with_reducible refine Below.setCell ?_ (by first | omega | (simp <;> omega)) _) | refine below_drewN ?_ _ | refine Below.drew ?_ | refine Below.alloc ?_ (by first | omega | (simp <;> omega)) _))⟩
  · have e0 : ((offs.length : Int) == 0) = false := by simp only [beq_eq_false_iff_ne]; omega
    by_cases c1 : (64 : Int) < (offs.length : Int)
    · go_wp2_with fail
      go_ret
      exact ⟨_, rfl, (fun h => by cases h), (by repeat (first | (with_reducible assumption) | (with_reducible exact Below.refl _ _) | (with_reducible refine Below.setCell ?_ (by first | omega | (simp <;> omega)) _) | refine below_drewN ?_ _ | refine Below.drew ?_ | refine Below.alloc ?_ (by first | omega | (simp <;> omega)) _))⟩
    · have k1 : decide ((64 : Int) < (offs.length : Int)) = false := decide_eq_false c1
      rcases Decidable.em (¬ dsts.length = offs.length) with c2 | c2
      · have e2 : ((dsts.length : Int) != (offs.length : Int)) = true := by simp only [bne_iff_ne]; omega
        go_wp2_with fail
        go_ret
        exact ⟨_, rfl, (fun h => by cases h), (by repeat (first | (with_reducible assumption) | (with_reducible exact Below.refl _ _) | (with_reducible refine Below.setCell ?_ (by first | omega | (simp <;> omega)) _) | refine below_drewN ?_ _ | refine Below.drew ?_ | refine Below.alloc ?_ (by first | omega | (simp <;> omega)) _))⟩
      · replace c2 : dsts.length = offs.length := Decidable.not_not.1 c2
        have e2 : ((dsts.length : Int) != (offs.length : Int)) = false := by rw [c2]; simp
        have C2 := Lib.hid c2
        clear c2
        by_cases c3 : whens.length = 0
        · have e3 : ((whens.length : Int) == 0) = true := by simp [c3]
          go_wp2_with fail
          go_ret
          exact ⟨_, rfl, (fun h => by cases h), (by repeat (first | (with_reducible assumption) | (with_reducible exact Below.refl _ _) | (with_reducible refine Below.setCell ?_ (by first | omega | (simp <;> omega)) _) | refine below_drewN ?_ _ | refine Below.drew ?_ | refine Below.alloc ?_ (by first | omega | (simp <;> omega)) _))⟩
        · have e3 : ((whens.length : Int) == 0) = false := by simp only [beq_eq_false_iff_ne]; omega
          by_cases c4 : (4096 : Int) < (whens.length : Int)
          · go_wp2_with fail
            go_ret
            exact ⟨_, rfl, (fun h => by cases h), (by repeat (first | (with_reducible assumption) | (with_reducible exact Below.refl _ _) | (with_reducible refine Below.setCell ?_ (by first | omega | (simp <;> omega)) _) | refine below_drewN ?_ _ | refine Below.drew ?_ | refine Below.alloc ?_ (by first | omega | (simp <;> omega)) _))⟩
          · have k4 : decide ((4096 : Int) < (whens.length : Int)) = false := decide_eq_false c4
            rcases Decidable.em (¬ idxs.length = whens.length) with c5 | c5
            · have e5 : ((idxs.length : Int) != (whens.length : Int)) = true := by simp only [bne_iff_ne]; omega
              go_wp2_with fail
              go_ret
              exact ⟨_, rfl, (fun h => by cases h), (by repeat (first | (with_reducible assumption) | (with_reducible exact Below.refl _ _) | (with_reducible refine Below.setCell ?_ (by first | omega | (simp <;> omega)) _) | refine below_drewN ?_ _ | refine Below.drew ?_ | refine Below.alloc ?_ (by first | omega | (simp <;> omega)) _))⟩
            · replace c5 : idxs.length = whens.length := Decidable.not_not.1 c5
              have e5 : ((idxs.length : Int) != (whens.length : Int)) = false := by rw [c5]; simp
              have C5 := Lib.hid c5
              clear c5
              have hw0 : 0 < whens.length := by omega
              obtain ⟨v0, hv0⟩ : ∃ x, whens[0]? = some x := ⟨whens[0], List.getElem?_eq_getElem hw0⟩
              obtain ⟨wb, woff, rfl, kw0⟩ := HWN.out 0 v0 hv0
              have HV0 := Lib.hid hv0
              rw [Nat.add_zero] at kw0
              have kw : (w.alloc (.cells #[.slice ao offs.length co, .slice ad dsts.length cd, .slice (some ⟨wb, woff, none⟩) whens.length cw, .slice ai idxs.length ci] 29)).cell? ⟨wb, woff, none⟩ = some (.int .i64 v0) := cellBS ((Below.refl _ _).alloc (Nat.le_refl _) _) kw0
              clear hv0
              by_cases c6 : v0 = -9223372036854775808
              rotate_left
              · have e6 : (v0 != -9223372036854775808) = true := by simp only [bne_iff_ne]; exact c6
                go_wp2_with fail
                go_ret
                exact ⟨_, rfl, (fun h => by cases h), (by repeat (first | (with_reducible assumption) | (with_reducible exact Below.refl _ _) | (with_reducible refine Below.setCell ?_ (by first | omega | (simp <;> omega)) _) | refine below_drewN ?_ _ | refine Below.drew ?_ | refine Below.alloc ?_ (by first | omega | (simp <;> omega)) _))⟩
              subst c6
              have e6 : ((-9223372036854775808 : Int) != -9223372036854775808) = false := by rfl
              clear kw0
              go_wp2_with fail
              go_loopw [71] (fun tk wr => ∃ (k : Nat), k ≤ offs.length ∧ tk = .int .i64 k ∧ (∀ (i : Nat) (x : Int), i < k → offs[i]? = some x → -86400 ≤ x ∧ x ≤ 86400) ∧ RowAt wr w.heap.size 29 #[.slice ao offs.length co, .slice ad dsts.length cd, .slice (some ⟨wb, woff, none⟩) whens.length cw, .slice ai idxs.length ci] ∧ Below w.heap.size w wr) (fun tk _ => offs.length - (intOf tk).toNat)
              case atStart => exact ⟨0, Nat.zero_le _, rfl, fun i x h => by omega, rowAt_last _ _ _ _ rfl, (Below.refl _ _).alloc (Nat.le_refl _) _⟩
              case round =>
                obtain ⟨k, hk, rfl, hA, hR, hb⟩ := hrel
                have HA := Lib.hid hA
                have HR := Lib.hid hR
                clear hA hR kw
                by_cases hkL : k < offs.length
                · obtain ⟨x, hx⟩ : ∃ x, offs[k]? = some x := ⟨offs[k], List.getElem?_eq_getElem hkL⟩
                  obtain ⟨ob, ooff, rfl, ko0⟩ := HOF.out k x hx
                  have ko := cellBS hb ko0
                  have HX := Lib.hid hx
                  clear ko0 hx
                  by_cases b1 : x < -86400
                  · go_wp2_with fail
                    go_ret
                    exact ⟨_, rfl, (fun h => by cases h), hb⟩
                  by_cases b2 : 86400 < x
                  · go_wp2_with fail
                    go_ret
                    exact ⟨_, rfl, (fun h => by cases h), hb⟩
                  have HA2 : Hid (∀ (i : Nat) (y : Int), i < k + 1 → offs[i]? = some y → -86400 ≤ y ∧ y ≤ 86400) := Lib.hid (fun i y hi hy => by
                    rcases Nat.lt_or_ge i k with c | c
                    · exact HA.out i y c hy
                    · obtain rfl : i = k := by omega
                      rw [HX.out] at hy
                      have := Option.some.inj hy
                      omega)
                  go_wp2_with fail
                  go_roundw
                  case rel => exact ⟨k + 1, by omega, by go_num, HA2.out, HR.out, hb⟩
                  case measure => simp [intOf]; omega
                · obtain rfl : k = offs.length := by omega
                  have HO2 : Hid (∀ x ∈ offs, -86400 ≤ x ∧ x ≤ 86400) := Lib.hid (fun x hx => by obtain ⟨i, hi, rfl⟩ := List.mem_iff_getElem.1 hx; exact HA.out i _ hi (List.getElem?_eq_getElem hi))
                  have hb0 := hb
                  have HR0 := HR
                  have z3 : wr.cell? ⟨w.heap.size, 3, none⟩ = some (.slice ai idxs.length ci) := HR.out.cell 3
                  clear HA hb HR
                  go_wp2_with fail
                  go_loopw [85] (fun tk wr => ∃ (k : Nat), k ≤ idxs.length ∧ tk = .int .i64 k ∧ (∀ (i : Nat) (x : Int), i < k → idxs[i]? = some x → 0 ≤ x ∧ x < offs.length) ∧ (∀ (i : Nat) (a b : Int), i + 1 < k → whens[i]? = some a → whens[i + 1]? = some b → a < b) ∧ RowAt wr w.heap.size 29 #[.slice ao offs.length co, .slice ad dsts.length cd, .slice (some ⟨wb, woff, none⟩) whens.length cw, .slice ai idxs.length ci] ∧ Below w.heap.size w wr) (fun tk _ => idxs.length - (intOf tk).toNat)
                  case atStart => exact ⟨0, Nat.zero_le _, rfl, fun i x h => by omega, fun i a b h => by omega, HR0.out, hb0⟩
                  case round =>
                    clear HR0 hb0 z3
                    obtain ⟨k, hk, rfl, hI, hW, hR, hb⟩ := hrel
                    have HI := Lib.hid hI
                    have HW := Lib.hid hW
                    have HR := Lib.hid hR
                    clear hI hW hR
                    by_cases hkL : k < idxs.length
                    · obtain ⟨x, hx⟩ : ∃ x, idxs[k]? = some x := ⟨idxs[k], List.getElem?_eq_getElem hkL⟩
                      obtain ⟨ib, ioff, rfl, ki0⟩ := HIX.out k x hx
                      have ki := cellBS hb ki0
                      have HX := Lib.hid hx
                      have hkw : k < whens.length := by rw [← C5.out]; exact hkL
                      obtain ⟨t1, ht1⟩ : ∃ x, whens[k]? = some x := ⟨whens[k], List.getElem?_eq_getElem hkw⟩
                      have kt : wr.cell? ⟨wb, woff + k, none⟩ = some (.int .i64 t1) := by
                        obtain ⟨b2, o2, e2, h2⟩ := HWN.out k t1 ht1
                        injection e2 with e2
                        injection e2 with e3 e4
                        subst e3; subst e4
                        exact cellBS hb h2
                      have HT1 := Lib.hid ht1
                      have z0 : wr.cell? ⟨w.heap.size, 0, none⟩ = some (.slice ao offs.length co) := HR.out.cell 0
                      have z2 : wr.cell? ⟨w.heap.size, 2, none⟩ = some (.slice (some ⟨wb, woff, none⟩) whens.length cw) := HR.out.cell 2
                      clear ki0 hx ht1
                      by_cases b1 : x < 0
                      · have q1 : decide (x < 0) = true := decide_eq_true b1
                        go_wp2_with fail
                        go_quiet (fail)
                        go_wp2_with fail
                        go_ret
                        exact ⟨_, rfl, (fun h => by cases h), below_drewN hb _⟩
                      have q1 : decide (x < 0) = false := decide_eq_false b1
                      by_cases b2 : (offs.length : Int) ≤ x
                      · have q2 : decide ((offs.length : Int) ≤ x) = true := decide_eq_true b2
                        go_wp2_with fail
                        go_quiet (fail)
                        go_wp2_with fail
                        go_ret
                        exact ⟨_, rfl, (fun h => by cases h), below_drewN hb _⟩
                      have q2 : decide ((offs.length : Int) ≤ x) = false := decide_eq_false b2
                      have HI2 : Hid (∀ (i : Nat) (y : Int), i < k + 1 → idxs[i]? = some y → 0 ≤ y ∧ y < offs.length) := Lib.hid (fun i y hi hy => by
                        rcases Nat.lt_or_ge i k with c | c
                        · exact HI.out i y c hy
                        · obtain rfl : i = k := by omega
                          rw [HX.out] at hy
                          have := Option.some.inj hy
                          omega)
                      by_cases b3 : k = 0
                      · subst b3
                        simp only [Nat.add_zero] at ki
                        have HW2 : Hid (∀ (i : Nat) (a b : Int), i + 1 < 0 + 1 → whens[i]? = some a → whens[i + 1]? = some b → a < b) := Lib.hid (fun i a b hi => by omega)
                        have q3 : decide ((0 : Int) < ((0 : Nat) : Int)) = false := by simp
                        have q3' : decide ((0 : Int) < 0) = false := by simp
                        go_wp2_with fail
                        go_quiet (fail)
                        go_wp2_with fail
                        go_roundw
                        case rel => exact ⟨1, by omega, rfl, HI2.out, HW2.out, HR.out.below (below_drewN (Below.refl _ _) _), below_drewN hb _⟩
                        case measure => simp [intOf]; omega
                      · obtain ⟨m, rfl⟩ : ∃ m, k = m + 1 := ⟨k - 1, by omega⟩
                        have q3 : decide ((0 : Int) < ((m + 1 : Nat) : Int)) = true := decide_eq_true (by omega)
                        have q3' : decide ((0 : Int) < (m : Int) + 1) = true := decide_eq_true (by omega)
                        obtain ⟨t0, ht0⟩ : ∃ x, whens[m]? = some x := ⟨whens[m], List.getElem?_eq_getElem (by omega)⟩
                        have kt0 : wr.cell? ⟨wb, woff + m, none⟩ = some (.int .i64 t0) := by
                          obtain ⟨b2, o2, e2, h2⟩ := HWN.out m t0 ht0
                          injection e2 with e2
                          injection e2 with e3 e4
                          subst e3; subst e4
                          exact cellBS hb h2
                        have HT0 := Lib.hid ht0
                        clear ht0
                        have hk1 : m < whens.length := by omega
                        by_cases b4 : t1 ≤ t0
                        · have q4 : decide (t1 ≤ t0) = true := decide_eq_true b4
                          go_wp2_with fail
                          go_quiet (fail)
                          go_wp2_with fail
                          go_ret
                          exact ⟨_, rfl, (fun h => by cases h), below_drewN hb _⟩
                        have q4 : decide (t1 ≤ t0) = false := decide_eq_false b4
                        have HW2 : Hid (∀ (i : Nat) (a b : Int), i + 1 < m + 1 + 1 → whens[i]? = some a → whens[i + 1]? = some b → a < b) := Lib.hid (fun i a b hi ha hb => by
                          rcases Nat.lt_or_ge (i + 1) (m + 1) with c | c
                          · exact HW.out i a b c ha hb
                          · obtain rfl : i = m := by omega
                            rw [HT0.out] at ha
                            rw [HT1.out] at hb
                            have := Option.some.inj ha
                            have := Option.some.inj hb
                            omega)
                        go_wp2_with fail
                        go_quiet (fail)
                        go_wp2_with fail
                        go_roundw
                        case rel => exact ⟨m + 1 + 1, by omega, by go_num, HI2.out, HW2.out, HR.out.below (below_drewN (Below.refl _ _) _), below_drewN hb _⟩
                        case measure => simp [intOf]; omega
                    · obtain rfl : k = idxs.length := by omega
                      go_wp2_with fail
                      go_ret
                      refine ⟨_, rfl, fun _ => Or.inr ⟨by omega, by omega, C2.out, by omega, by omega, C5.out, HV0.out, HO2.out, ?_, ?_⟩, hb⟩
                      · intro x hx; obtain ⟨i, hi, rfl⟩ := List.mem_iff_getElem.1 hx; exact HI.out i _ hi (List.getElem?_eq_getElem hi)
                      · intro i a b ha hb; exact HW.out i a b (by have := (List.getElem?_eq_some_iff.1 hb).1; rw [C5.out]; exact this) ha hb

end Go.Proofs.Ytpgclepiagfgfaa
