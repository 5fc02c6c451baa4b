/- spec.CronClock, spec.CronCivil in UTC, laws.cronLeast; the least times of a day, plain. -/
import Derived.Test.YtpgclepiagfgfaaTsY
import Derived.Deep.MidRow
namespace Go.Proofs.Ytpgclepiagfgfaa
open Go.RowKit
set_option linter.unusedVariables false
set_option linter.unusedSimpArgs false

theorem infoCiv : (Try.prog.info? 35).map (·.size) = some 8 := by kernel_rfl
theorem civ_one (a0 a1 a2 a3 a4 a5 a6 a7 : Int) : (#[.int .i64 a0, .int .i64 a1, .int .i64 a2, .int .i64 a3, .int .i64 a4, .int .i64 a5, .int .i64 a6, .int .i64 a7] : Array Value).all (·.oneCell') = true := all_oneCell_toArray (by intro v hv; simp at hv; rcases hv with rfl | rfl | rfl | rfl | rfl | rfl | rfl | rfl <;> rfl)
/-- The clocks at second loc. -/
def civV (loc nano : Int) : Array Value := #[.int .i64 (yearOf (loc / 86400)), .int .i64 (monthOf (loc / 86400)), .int .i64 (dayOf (loc / 86400)), .int .i64 (loc % 86400 / 3600), .int .i64 (loc % 3600 / 60), .int .i64 (loc % 60), .int .i64 nano, .int .i64 ((loc / 86400 + 4) % 7)]
set_option maxRecDepth 100000 in
set_option maxHeartbeats 8000000 in
theorem cronClock_any (loc nano : Int) (h0 : -62135596800 ≤ loc) (h1 : loc ≤ 260000000000) (w : World) :
    Calls Try.prog 37 #[.int .i64 loc, .int .i64 nano] w fun e w' => e = .returned (.agg (civV loc nano)) ∧ Below w.heap.size w w' := by
  obtain ⟨n, hn⟩ : ∃ n, Hid (n = loc / 86400) := ⟨_, rfl⟩
  have nb : -719162 ≤ n ∧ n < 3010000 := by have := hn.out; omega
  obtain ⟨x, hx⟩ : ∃ x, Hid (loc - 86400 * n = x) := ⟨_, rfl⟩
  have xb : 0 ≤ x ∧ x < 86400 := by have := hn.out; have := hx.out; omega
  obtain ⟨Y, M, D, HYMD⟩ : ∃ Y M D, Hid (yearOf n = Y ∧ monthOf n = M ∧ dayOf n = D) := ⟨_, _, _, Lib.hid ⟨rfl, rfl, rfl⟩⟩
  obtain ⟨wd, hwd⟩ : ∃ wd, Hid ((n + 4) % 7 = wd) := ⟨_, rfl⟩
  have HWD : Hid (∀ W, Calls Try.prog 58 #[.int .i64 n] W fun e w' => e = .returned (.int .i64 wd) ∧ W = w') := Lib.hid (fun W => by
    have h := weekdayS_any n (by omega) (by omega) W
    rw [hwd.out] at h
    exact h)
  go_enter Try.func37, Try.ntmps37
  go_wp2_with fail
  refine (floorDiv_any loc 86400 (by omega) (by omega) (by omega) (by omega) _).mono ?_
  rintro e w1 ⟨rfl, rfl⟩
  rw [← hn.out]
  go_wp2_with fail
  rw [hx.out]
  refine (dateOf_any n (by omega) (by omega) _).mono ?_
  rintro e w2 ⟨rfl, hb⟩
  rw [HYMD.out.1, HYMD.out.2.1, HYMD.out.2.2]
  have HA := Lib.hid (((rws0 w).alloc _ rfl #[.int .i64 0, .int .i64 0, .int .i64 0, .int .i64 0, .int .i64 0, .int .i64 0, .int .i64 0, .int .i64 0] 35).below hb)
  clear hb
  go_wp2_with fail
  have HB := Lib.hid (HA.out.alloc w2.heap.size rfl #[.int .i64 Y, .int .i64 M, .int .i64 D] 74)
  refine wp_named ?_
  intro W2 hW2
  rw [hW2] at HB
  have hp7 : w.heap.size < w2.heap.size := HA.out.at0.lt
  clear hW2 HA
  generalize w2.heap.size = p7 at HB hp7 ⊢
  have HD := Lib.hid HB.out.drew
  clear HB
  refine wp_region_held_drew (S := fun w' => Hid (Rws w w' [(p7, 74, #[.int .i64 Y, .int .i64 M, .int .i64 D])])) (by kernel_rfl) (Lib.hid HD.out.swap.tail) (fun hHeld => ?_)
  generalize W2.drew = Wd at HD hHeld ⊢
  (try simp only [Act.put, List.getElem_toArray, List.getElem_cons_zero, List.getElem_cons_succ, List.setIfInBounds_toArray, List.set_cons_zero, List.set_cons_succ])
  refine wpAnyH_take (i := 0) (v := ?_) rfl (by kernel_rfl) (by kernel_rfl) (by kernel_rfl) (fun _ _ _ h => h) (Or.inl ⟨by rfl, ?_⟩) (by assumption) ?_
  rotate_left
  · (intro wx hSw; go_simp; (try with_reducible rfl))
  (try simp only [Act.put, List.getElem_toArray, List.getElem_cons_zero, List.getElem_cons_succ, List.setIfInBounds_toArray, List.set_cons_zero, List.set_cons_succ])
  refine wpAnyH_take (i := 1) (v := ?_) rfl (by kernel_rfl) (by kernel_rfl) (by kernel_rfl) (fun _ _ _ h => h) (Or.inl ⟨by rfl, ?_⟩) (by assumption) ?_
  rotate_left
  · (intro wx hSw; have k0 : wx.cell? ⟨p7, 0, none⟩ = some (.int .i64 Y) := hSw.out.at0.cell 0; have k1 : wx.cell? ⟨p7, 1, none⟩ = some (.int .i64 M) := hSw.out.at0.cell 1; have k2 : wx.cell? ⟨p7, 2, none⟩ = some (.int .i64 D) := hSw.out.at0.cell 2; go_simp; (try with_reducible rfl))
  (try simp only [Act.put, List.getElem_toArray, List.getElem_cons_zero, List.getElem_cons_succ, List.setIfInBounds_toArray, List.set_cons_zero, List.set_cons_succ])
  refine wpAnyH_take (i := 2) (v := ?_) rfl (by kernel_rfl) (by kernel_rfl) (by kernel_rfl) (fun _ _ _ h => h) (Or.inl ⟨by rfl, ?_⟩) (by assumption) ?_
  rotate_left
  · (intro wx hSw; go_simp; (try with_reducible rfl))
  (try simp only [Act.put, List.getElem_toArray, List.getElem_cons_zero, List.getElem_cons_succ, List.setIfInBounds_toArray, List.set_cons_zero, List.set_cons_succ])
  refine wpAnyH_take (i := 3) (v := ?_) rfl (by kernel_rfl) (by kernel_rfl) (by kernel_rfl) (fun _ _ _ h => h) (Or.inl ⟨by rfl, ?_⟩) (by assumption) ?_
  rotate_left
  · (intro wx hSw; have k0 : wx.cell? ⟨p7, 0, none⟩ = some (.int .i64 Y) := hSw.out.at0.cell 0; have k1 : wx.cell? ⟨p7, 1, none⟩ = some (.int .i64 M) := hSw.out.at0.cell 1; have k2 : wx.cell? ⟨p7, 2, none⟩ = some (.int .i64 D) := hSw.out.at0.cell 2; go_simp; (try with_reducible rfl))
  (try simp only [Act.put, List.getElem_toArray, List.getElem_cons_zero, List.getElem_cons_succ, List.setIfInBounds_toArray, List.set_cons_zero, List.set_cons_succ])
  refine wpAnyH_take (i := 4) (v := ?_) rfl (by kernel_rfl) (by kernel_rfl) (by kernel_rfl) (fun _ _ _ h => h) (Or.inl ⟨by rfl, ?_⟩) (by assumption) ?_
  rotate_left
  · (intro wx hSw; go_simp; (try with_reducible rfl))
  (try simp only [Act.put, List.getElem_toArray, List.getElem_cons_zero, List.getElem_cons_succ, List.setIfInBounds_toArray, List.set_cons_zero, List.set_cons_succ])
  refine wpAnyH_take (i := 5) (v := ?_) rfl (by kernel_rfl) (by kernel_rfl) (by kernel_rfl) (fun _ _ _ h => h) (Or.inl ⟨by rfl, ?_⟩) (by assumption) ?_
  rotate_left
  · (intro wx hSw; have k0 : wx.cell? ⟨p7, 0, none⟩ = some (.int .i64 Y) := hSw.out.at0.cell 0; have k1 : wx.cell? ⟨p7, 1, none⟩ = some (.int .i64 M) := hSw.out.at0.cell 1; have k2 : wx.cell? ⟨p7, 2, none⟩ = some (.int .i64 D) := hSw.out.at0.cell 2; go_simp; (try with_reducible rfl))
  (try simp only [Act.put, List.getElem_toArray, List.getElem_cons_zero, List.getElem_cons_succ, List.setIfInBounds_toArray, List.set_cons_zero, List.set_cons_succ])
  refine wpAnyH_take (i := 6) (v := ?_) rfl (by kernel_rfl) (by kernel_rfl) (by kernel_rfl) (fun _ _ _ h => h) (Or.inl ⟨by rfl, ?_⟩) (by assumption) ?_
  rotate_left
  · (intro wx hSw; go_simp; (try with_reducible rfl))
  (try simp only [Act.put, List.getElem_toArray, List.getElem_cons_zero, List.getElem_cons_succ, List.setIfInBounds_toArray, List.set_cons_zero, List.set_cons_succ])
  refine wpAnyH_take (i := 7) (v := ?_) rfl (by kernel_rfl) (by kernel_rfl) (by kernel_rfl) (fun _ _ _ h => h) (Or.inl ⟨by rfl, ?_⟩) (by assumption) ?_
  rotate_left
  · (intro wx hSw; go_simp; (try with_reducible rfl))
  (try simp only [Act.put, List.getElem_toArray, List.getElem_cons_zero, List.getElem_cons_succ, List.setIfInBounds_toArray, List.set_cons_zero, List.set_cons_succ])
  refine wpAnyH_take (i := 8) (v := ?_) rfl (by kernel_rfl) (by kernel_rfl) (by kernel_rfl) (fun _ _ _ h => h) (Or.inl ⟨by rfl, ?_⟩) (by assumption) ?_
  rotate_left
  · (intro wx hSw; go_simp; (try with_reducible rfl))
  (try simp only [Act.put, List.getElem_toArray, List.getElem_cons_zero, List.getElem_cons_succ, List.setIfInBounds_toArray, List.set_cons_zero, List.set_cons_succ])
  refine wpAnyH_take (i := 9) (v := ?_) rfl (by kernel_rfl) (by kernel_rfl) (by kernel_rfl) (fun _ _ _ h => h) (Or.inl ⟨by rfl, ?_⟩) (by assumption) ?_
  rotate_left
  · (intro wx hSw; go_simp; (try with_reducible rfl))
  (try simp only [Act.put, List.getElem_toArray, List.getElem_cons_zero, List.getElem_cons_succ, List.setIfInBounds_toArray, List.set_cons_zero, List.set_cons_succ])
  refine wpAnyH_take (i := 10) (v := ?_) rfl (by kernel_rfl) (by kernel_rfl) (by kernel_rfl) (fun _ _ _ h => h) (Or.inl ⟨by rfl, ?_⟩) (by assumption) ?_
  rotate_left
  · (intro wx hSw; go_simp; (try with_reducible rfl))
  (try simp only [Act.put, List.getElem_toArray, List.getElem_cons_zero, List.getElem_cons_succ, List.setIfInBounds_toArray, List.set_cons_zero, List.set_cons_succ])
  refine wpAnyH_take (i := 11) (v := ?_) rfl (by kernel_rfl) (by kernel_rfl) (by kernel_rfl) (fun _ _ _ h => h) (Or.inl ⟨by rfl, ?_⟩) (by assumption) ?_
  rotate_left
  · (intro wx hSw; go_simp; (try with_reducible rfl))
  (try simp only [Act.put, List.getElem_toArray, List.getElem_cons_zero, List.getElem_cons_succ, List.setIfInBounds_toArray, List.set_cons_zero, List.set_cons_succ])
  refine wpAnyH_take (i := 12) (v := ?_) rfl (by kernel_rfl) (by kernel_rfl) (by kernel_rfl) (fun _ _ _ h => h) (Or.inl ⟨by rfl, ?_⟩) (by assumption) ?_
  rotate_left
  · (intro wx hSw; go_simp; (try with_reducible rfl))
  (try simp only [Act.put, List.getElem_toArray, List.getElem_cons_zero, List.getElem_cons_succ, List.setIfInBounds_toArray, List.set_cons_zero, List.set_cons_succ])
  refine wpAnyH_take (i := 13) (v := ?_) rfl (by kernel_rfl) (by kernel_rfl) (by kernel_rfl) (fun _ _ _ h => h) (Or.inl ⟨by rfl, ?_⟩) (by assumption) ?_
  rotate_left
  · (intro wx hSw; go_simp; (try with_reducible rfl))
  (try simp only [Act.put, List.getElem_toArray, List.getElem_cons_zero, List.getElem_cons_succ, List.setIfInBounds_toArray, List.set_cons_zero, List.set_cons_succ])
  refine wpAnyH_take (i := 14) (v := ?_) rfl (by kernel_rfl) (by kernel_rfl) (by kernel_rfl) (fun _ _ _ h => h) (Or.inl ⟨by rfl, ?_⟩) (by assumption) ?_
  rotate_left
  · (intro wx hSw; go_simp; (try with_reducible rfl))
  (try simp only [Act.put, List.getElem_toArray, List.getElem_cons_zero, List.getElem_cons_succ, List.setIfInBounds_toArray, List.set_cons_zero, List.set_cons_succ])
  refine wpAnyH_ready (rs := [15]) (by kernel_rfl) (by simp) ?_
  refine (AllReadyH.cons rfl (fun K hK => ?_) AllReadyH.nil)
  go_simp
  go_at_call 58
  refine (HWD.out _).mono ?_
  rintro e w5 ⟨rfl, rfl⟩
  have HN := Lib.hid hHeld.out
  refine hK.out _ _ HN (fun hH2 => ?_)
  clear hK K hHeld 
  have hHeld := hH2
  clear hH2
  (try simp only [Act.put, List.getElem_toArray, List.getElem_cons_zero, List.getElem_cons_succ, List.setIfInBounds_toArray, List.set_cons_zero, List.set_cons_succ])
  refine wpAnyH_take (i := 16) (v := ?_) rfl (by kernel_rfl) (by kernel_rfl) (by kernel_rfl) (fun _ _ _ h => h) (Or.inl ⟨by rfl, ?_⟩) (by assumption) ?_
  rotate_left
  · (intro wx hSw; go_simp; (try with_reducible rfl))
  (try simp only [Act.put, List.getElem_toArray, List.getElem_cons_zero, List.getElem_cons_succ, List.setIfInBounds_toArray, List.set_cons_zero, List.set_cons_succ])
  obtain ⟨ho, hho⟩ : ∃ ho, Hid (IntKind.wrap .i64 (x.tdiv 3600) = ho) := ⟨_, rfl⟩
  obtain ⟨mi, hmi⟩ : ∃ mi, Hid ((IntKind.wrap .i64 (x.tdiv 60)).tmod 60 = mi) := ⟨_, rfl⟩
  obtain ⟨se, hse⟩ : ∃ se, Hid (x.tmod 60 = se) := ⟨_, rfl⟩
  rw [hmi.out, hho.out, hse.out]
  refine wpAnyH_ready (rs := [17]) (by kernel_rfl) (by simp) ?_
  refine (AllReadyH.cons rfl (fun K hK => ?_) AllReadyH.nil)
  rw [if_pos (by rfl)]
  have hT : Wd.there w.heap.size 0 8 := HD.out.at1.thereAll
  have HE := Lib.hid (HD.out.swap.put8 (by intro r hr; simp at hr; subst hr; simp; omega) (Nat.le_refl _) (.int .i64 Y) (.int .i64 M) (.int .i64 D) (.int .i64 ho) (.int .i64 mi) (.int .i64 se) (.int .i64 nano) (.int .i64 wd))
  refine wp_store_mid 35 (.tmp 4) (.tmp 32) rfl w.heap.size 0 #[.int .i64 Y, .int .i64 M, .int .i64 D, .int .i64 ho, .int .i64 mi, .int .i64 se, .int .i64 nano, .int .i64 wd] (by simp [Act.eval]) (by simp [Act.eval]) hT infoCiv (civ_one _ _ _ _ _ _ _ _) ?_
  have HN := Lib.hid HE.out.tail
  refine hK.out _ _ HN (fun _ => ?_)
  clear hK K hHeld HN hT HD
  generalize Wd.setCells w.heap.size 0 _ = W3 at HE ⊢
  (try simp only [Act.put, List.getElem_toArray, List.getElem_cons_zero, List.getElem_cons_succ, List.setIfInBounds_toArray, List.set_cons_zero, List.set_cons_succ])
  refine wpAnyH_done (by kernel_rfl) ?_ _
  have z0 : W3.cell? ⟨w.heap.size, 0, none⟩ = some (.int .i64 Y) := HE.out.at0.cell 0
  have g0 := HE.out.at0.free 0
  have z1 : W3.cell? ⟨w.heap.size, 1, none⟩ = some (.int .i64 M) := HE.out.at0.cell 1
  have g1 := HE.out.at0.free 1
  have z2 : W3.cell? ⟨w.heap.size, 2, none⟩ = some (.int .i64 D) := HE.out.at0.cell 2
  have g2 := HE.out.at0.free 2
  have z3 : W3.cell? ⟨w.heap.size, 3, none⟩ = some (.int .i64 ho) := HE.out.at0.cell 3
  have g3 := HE.out.at0.free 3
  have z4 : W3.cell? ⟨w.heap.size, 4, none⟩ = some (.int .i64 mi) := HE.out.at0.cell 4
  have g4 := HE.out.at0.free 4
  have z5 : W3.cell? ⟨w.heap.size, 5, none⟩ = some (.int .i64 se) := HE.out.at0.cell 5
  have g5 := HE.out.at0.free 5
  have z6 : W3.cell? ⟨w.heap.size, 6, none⟩ = some (.int .i64 nano) := HE.out.at0.cell 6
  have g6 := HE.out.at0.free 6
  have z7 : W3.cell? ⟨w.heap.size, 7, none⟩ = some (.int .i64 wd) := HE.out.at0.cell 7
  have g7 := HE.out.at0.free 7
  have hB := HE.out.2
  clear HE
  go_wp2_with fail
  have hciv : civV loc nano = #[.int .i64 Y, .int .i64 M, .int .i64 D, .int .i64 ho, .int .i64 mi, .int .i64 se, .int .i64 nano, .int .i64 wd] := by
    unfold civV
    have e0 := hn.out
    have e1 := hx.out
    have w1 : ho = loc % 86400 / 3600 := by
      rw [← hho.out, IntWalk.i64_quo x 3600 (by omega)]; omega
    have w2 : mi = loc % 3600 / 60 := by
      rw [← hmi.out, IntWalk.i64_quo x 60 (by omega), Int.tmod_eq_emod_of_nonneg (by omega)]
      have a1 : loc % 3600 = x % 3600 := by omega
      have a2 : x / 60 % 60 = x % 3600 / 60 := by omega
      omega
    have w3 : se = loc % 60 := by
      rw [← hse.out, Int.tmod_eq_emod_of_nonneg (by omega)]; omega
    rw [← e0, HYMD.out.1, HYMD.out.2.1, HYMD.out.2.2, hwd.out, w1, w2, w3]
  rw [hciv]
  refine bodyPost_ret (v := .agg #[.int .i64 Y, .int .i64 M, .int .i64 D, .int .i64 ho, .int .i64 mi, .int .i64 se, .int .i64 nano, .int .i64 wd]) (by simp [results, Try.results37, go_sem, z0, g0, z1, g1, z2, g2, z3, g3, z4, g4, z5, g5, z6, g6, z7, g7]) rfl ⟨rfl, hB⟩

set_option maxRecDepth 100000 in
set_option maxHeartbeats 8000000 in
theorem cronCivil_any (sec ns : Int) (h0 : -62135596800 ≤ sec) (h1 : sec ≤ 260000000000) (w : World) :
    Calls Try.prog 15 #[.agg #[.int .i64 sec, .int .i64 ns], .agg #[.slice none 0 0, .slice none 0 0, .slice none 0 0, .slice none 0 0]] w fun e w' => e = .returned (.agg (civV sec ns)) ∧ Below w.heap.size w w' := by
  obtain ⟨c0, c1, c2, c3, c4, c5, c6, c7, HC⟩ : ∃ c0 c1 c2 c3 c4 c5 c6 c7, Hid (civV sec ns = #[.int .i64 c0, .int .i64 c1, .int .i64 c2, .int .i64 c3, .int .i64 c4, .int .i64 c5, .int .i64 c6, .int .i64 c7]) := ⟨_, _, _, _, _, _, _, _, Lib.hid rfl⟩
  have HCL : Hid (∀ W, Calls Try.prog 37 #[.int .i64 sec, .int .i64 ns] W fun e w' => e = .returned (.agg #[.int .i64 c0, .int .i64 c1, .int .i64 c2, .int .i64 c3, .int .i64 c4, .int .i64 c5, .int .i64 c6, .int .i64 c7]) ∧ Below W.heap.size W w') := Lib.hid (fun W => by rw [← HC.out]; exact cronClock_any sec ns (by omega) (by omega) W)
  rw [HC.out]
  clear HC
  go_enter Try.func15, Try.ntmps15
  go_wp2_with fail
  have HB := Lib.hid ((((rws0 w).alloc _ rfl #[.int .i64 sec, .int .i64 ns] 24).alloc (w.heap.size + 1) (by simp) #[.slice none 0 0, .slice none 0 0, .slice none 0 0, .slice none 0 0] 29).alloc (w.heap.size + 1 + 1) (by simp) #[.int .i64 0, .int .i64 0, .int .i64 0, .int .i64 0, .int .i64 0, .int .i64 0, .int .i64 0, .int .i64 0] 35)
  refine wp_named ?_
  intro W2 hW2
  rw [hW2] at HB
  clear hW2
  have HD := Lib.hid HB.out.drew
  clear HB
  refine wp_region_held_drew (S := fun w' => Hid (Rws w w' [(w.heap.size + 1, 29, #[.slice none 0 0, .slice none 0 0, .slice none 0 0, .slice none 0 0]), (w.heap.size, 24, #[.int .i64 sec, .int .i64 ns])])) (by kernel_rfl) (Lib.hid HD.out.tail) (fun hHeld => ?_)
  generalize W2.drew = Wd at HD hHeld ⊢
  (try simp only [Act.put, List.getElem_toArray, List.getElem_cons_zero, List.getElem_cons_succ, List.setIfInBounds_toArray, List.set_cons_zero, List.set_cons_succ])
  refine wpAnyH_take (i := 0) (v := ?_) rfl (by kernel_rfl) (by kernel_rfl) (by kernel_rfl) (fun _ _ _ h => h) (Or.inl ⟨by rfl, ?_⟩) (by assumption) ?_
  rotate_left
  · (intro wx hSw; go_simp; (try with_reducible rfl))
  (try simp only [Act.put, List.getElem_toArray, List.getElem_cons_zero, List.getElem_cons_succ, List.setIfInBounds_toArray, List.set_cons_zero, List.set_cons_succ])
  refine wpAnyH_take (i := 1) (v := ?_) rfl (by kernel_rfl) (by kernel_rfl) (by kernel_rfl) (fun _ _ _ h => h) (Or.inl ⟨by rfl, ?_⟩) (by assumption) ?_
  rotate_left
  · (intro wx hSw; have k0 : wx.cell? ⟨w.heap.size, 0, none⟩ = some (.int .i64 sec) := hSw.out.at1.cell 0; have k1 : wx.cell? ⟨w.heap.size, 1, none⟩ = some (.int .i64 ns) := hSw.out.at1.cell 1; go_simp; (try with_reducible rfl))
  (try simp only [Act.put, List.getElem_toArray, List.getElem_cons_zero, List.getElem_cons_succ, List.setIfInBounds_toArray, List.set_cons_zero, List.set_cons_succ])
  refine wpAnyH_take (i := 2) (v := ?_) rfl (by kernel_rfl) (by kernel_rfl) (by kernel_rfl) (fun _ _ _ h => h) (Or.inl ⟨by rfl, ?_⟩) (by assumption) ?_
  rotate_left
  · (intro wx hSw; have k0 : wx.cell? ⟨w.heap.size + 1, 0, none⟩ = some (.slice none 0 0) := hSw.out.at0.cell 0; have k1 : wx.cell? ⟨w.heap.size + 1, 1, none⟩ = some (.slice none 0 0) := hSw.out.at0.cell 1; have k2 : wx.cell? ⟨w.heap.size + 1, 2, none⟩ = some (.slice none 0 0) := hSw.out.at0.cell 2; have k3 : wx.cell? ⟨w.heap.size + 1, 3, none⟩ = some (.slice none 0 0) := hSw.out.at0.cell 3; go_simp; (try with_reducible rfl))
  (try simp only [Act.put, List.getElem_toArray, List.getElem_cons_zero, List.getElem_cons_succ, List.setIfInBounds_toArray, List.set_cons_zero, List.set_cons_succ])
  refine wpAnyH_take (i := 3) (v := ?_) rfl (by kernel_rfl) (by kernel_rfl) (by kernel_rfl) (fun _ _ _ h => h) (Or.inl ⟨by rfl, ?_⟩) (by assumption) ?_
  rotate_left
  · (intro wx hSw; go_simp; (try with_reducible rfl))
  (try simp only [Act.put, List.getElem_toArray, List.getElem_cons_zero, List.getElem_cons_succ, List.setIfInBounds_toArray, List.set_cons_zero, List.set_cons_succ])
  refine wpAnyH_take (i := 4) (v := ?_) rfl (by kernel_rfl) (by kernel_rfl) (by kernel_rfl) (fun _ _ _ h => h) (Or.inl ⟨by rfl, ?_⟩) (by assumption) ?_
  rotate_left
  · (intro wx hSw; have k0 : wx.cell? ⟨w.heap.size, 0, none⟩ = some (.int .i64 sec) := hSw.out.at1.cell 0; have k1 : wx.cell? ⟨w.heap.size, 1, none⟩ = some (.int .i64 ns) := hSw.out.at1.cell 1; go_simp; (try with_reducible rfl))
  (try simp only [Act.put, List.getElem_toArray, List.getElem_cons_zero, List.getElem_cons_succ, List.setIfInBounds_toArray, List.set_cons_zero, List.set_cons_succ])
  refine wpAnyH_take (i := 7) (v := ?_) rfl (by kernel_rfl) (by kernel_rfl) (by kernel_rfl) (fun _ _ _ h => h) (Or.inl ⟨by rfl, ?_⟩) (by assumption) ?_
  rotate_left
  · (intro wx hSw; go_simp; (try with_reducible rfl))
  (try simp only [Act.put, List.getElem_toArray, List.getElem_cons_zero, List.getElem_cons_succ, List.setIfInBounds_toArray, List.set_cons_zero, List.set_cons_succ])
  refine wpAnyH_take (i := 8) (v := ?_) rfl (by kernel_rfl) (by kernel_rfl) (by kernel_rfl) (fun _ _ _ h => h) (Or.inl ⟨by rfl, ?_⟩) (by assumption) ?_
  rotate_left
  · (intro wx hSw; have k0 : wx.cell? ⟨w.heap.size, 0, none⟩ = some (.int .i64 sec) := hSw.out.at1.cell 0; have k1 : wx.cell? ⟨w.heap.size, 1, none⟩ = some (.int .i64 ns) := hSw.out.at1.cell 1; go_simp; (try with_reducible rfl))
  (try simp only [Act.put, List.getElem_toArray, List.getElem_cons_zero, List.getElem_cons_succ, List.setIfInBounds_toArray, List.set_cons_zero, List.set_cons_succ])
  refine wpAnyH_ready (rs := [5]) (by kernel_rfl) (by simp) ?_
  refine (AllReadyH.cons rfl (fun K hK => ?_) AllReadyH.nil)
  go_simp
  go_at_call 38
  refine (offset_any sec _).mono ?_
  rintro e w5 ⟨rfl, hb⟩
  have HD5 := Lib.hid (HD.out.below hb)
  have HN := Lib.hid HD5.out.tail
  clear hb HD
  refine hK.out _ _ HN (fun hH2 => ?_)
  clear hK K hHeld 
  have hHeld := hH2
  clear hH2
  (try simp only [Act.put, List.getElem_toArray, List.getElem_cons_zero, List.getElem_cons_succ, List.setIfInBounds_toArray, List.set_cons_zero, List.set_cons_succ])
  refine wpAnyH_take (i := 6) (v := ?_) rfl (by kernel_rfl) (by kernel_rfl) (by kernel_rfl) (fun _ _ _ h => h) (Or.inl ⟨by rfl, ?_⟩) (by assumption) ?_
  rotate_left
  · (intro wx hSw; go_simp; (try with_reducible rfl))
  (try simp only [Act.put, List.getElem_toArray, List.getElem_cons_zero, List.getElem_cons_succ, List.setIfInBounds_toArray, List.set_cons_zero, List.set_cons_succ])
  rw [IntWalk.i64_in sec (by omega)]
  refine wpAnyH_ready (rs := [9]) (by kernel_rfl) (by simp) ?_
  refine (AllReadyH.cons rfl (fun K hK => ?_) AllReadyH.nil)
  go_simp
  go_at_call 37
  refine (HCL.out _).mono ?_
  rintro e w6 ⟨rfl, hb⟩
  have HD6 := Lib.hid (HD5.out.below hb)
  have HN := Lib.hid HD6.out.tail
  clear hb HD5
  refine hK.out _ _ HN (fun hH2 => ?_)
  clear hK K hHeld 
  have hHeld := hH2
  clear hH2
  (try simp only [Act.put, List.getElem_toArray, List.getElem_cons_zero, List.getElem_cons_succ, List.setIfInBounds_toArray, List.set_cons_zero, List.set_cons_succ])
  refine wpAnyH_ready (rs := [10]) (by kernel_rfl) (by simp) ?_
  refine (AllReadyH.cons rfl (fun K hK => ?_) AllReadyH.nil)
  rw [if_pos (by rfl)]
  have hT : w6.there (w.heap.size + 1 + 1) 0 8 := HD6.out.at0.thereAll
  have HE := Lib.hid (HD6.out.put8 (by intro r hr; simp at hr; rcases hr with rfl | rfl <;> (dsimp only; omega)) (by omega) (.int .i64 c0) (.int .i64 c1) (.int .i64 c2) (.int .i64 c3) (.int .i64 c4) (.int .i64 c5) (.int .i64 c6) (.int .i64 c7))
  refine wp_store_mid 35 (.tmp 4) (.tmp 14) rfl (w.heap.size + 1 + 1) 0 #[.int .i64 c0, .int .i64 c1, .int .i64 c2, .int .i64 c3, .int .i64 c4, .int .i64 c5, .int .i64 c6, .int .i64 c7] (by simp [Act.eval]) (by simp [Act.eval]) hT infoCiv (civ_one _ _ _ _ _ _ _ _) ?_
  have HN := Lib.hid HE.out.tail
  refine hK.out _ _ HN (fun _ => ?_)
  clear hK K hHeld HN hT HD6
  generalize w6.setCells (w.heap.size + 1 + 1) 0 _ = W3 at HE ⊢
  (try simp only [Act.put, List.getElem_toArray, List.getElem_cons_zero, List.getElem_cons_succ, List.setIfInBounds_toArray, List.set_cons_zero, List.set_cons_succ])
  refine wpAnyH_done (by kernel_rfl) ?_ _
  have z0 : W3.cell? ⟨w.heap.size + 1 + 1, 0, none⟩ = some (.int .i64 c0) := HE.out.at0.cell 0
  have g0 := HE.out.at0.free 0
  have z1 : W3.cell? ⟨w.heap.size + 1 + 1, 1, none⟩ = some (.int .i64 c1) := HE.out.at0.cell 1
  have g1 := HE.out.at0.free 1
  have z2 : W3.cell? ⟨w.heap.size + 1 + 1, 2, none⟩ = some (.int .i64 c2) := HE.out.at0.cell 2
  have g2 := HE.out.at0.free 2
  have z3 : W3.cell? ⟨w.heap.size + 1 + 1, 3, none⟩ = some (.int .i64 c3) := HE.out.at0.cell 3
  have g3 := HE.out.at0.free 3
  have z4 : W3.cell? ⟨w.heap.size + 1 + 1, 4, none⟩ = some (.int .i64 c4) := HE.out.at0.cell 4
  have g4 := HE.out.at0.free 4
  have z5 : W3.cell? ⟨w.heap.size + 1 + 1, 5, none⟩ = some (.int .i64 c5) := HE.out.at0.cell 5
  have g5 := HE.out.at0.free 5
  have z6 : W3.cell? ⟨w.heap.size + 1 + 1, 6, none⟩ = some (.int .i64 c6) := HE.out.at0.cell 6
  have g6 := HE.out.at0.free 6
  have z7 : W3.cell? ⟨w.heap.size + 1 + 1, 7, none⟩ = some (.int .i64 c7) := HE.out.at0.cell 7
  have g7 := HE.out.at0.free 7
  have hB := HE.out.2
  clear HE
  go_wp2_with fail
  refine bodyPost_ret (v := .agg #[.int .i64 c0, .int .i64 c1, .int .i64 c2, .int .i64 c3, .int .i64 c4, .int .i64 c5, .int .i64 c6, .int .i64 c7]) (by simp [results, Try.results15, go_sem, z0, g0, z1, g1, z2, g2, z3, g3, z4, g4, z5, g5, z6, g6, z7, g7]) rfl ⟨rfl, hB⟩

end Go.Proofs.Ytpgclepiagfgfaa
