/- Day, Weekday and cron.dayMatches on the clocks of any location. -/
import Derived.Test.YtpgclepiagfgfaaTzD
namespace Go.Proofs.Ytpgclepiagfgfaa
open Go.RowKit
set_option linter.unusedVariables false
set_option linter.unusedSimpArgs false

theorem z64 : (0 : Nat) < 18446744073709551616 := by decide
theorem dayN_bdL (loc : Int) (h0 : -86400 ≤ loc) (h1 : loc < 1000000000000) : -719163 ≤ dayN loc ∧ dayN loc < 100000000 := by unfold dayN; omega
theorem dayN_absL (loc : Int) : (loc + 9223371966606163200) / 86400 = dayN loc + 106751991073400 := by unfold dayN; omega
set_option maxHeartbeats 2000000 in
theorem dayL_any (w0 : World) (ns : Nat) (ext : Int) (pa : Option Addr) (loc : Int) (HA : Hid (AbsIs w0 ns ext (.pointer pa) loc)) (l0 : -86400 ≤ loc) (l1 : loc < 1000000000000) (w : World) (hw : Hid (Below w0.heap.size w0 w)) :
    Calls Try.prog 67 #[.agg #[.int .u64 ns, .int .i64 ext, .pointer pa]] w fun e w' => e = .returned (.int .i64 (dayOf (dayN loc))) ∧ Below w.heap.size w w' := by
  obtain ⟨n, Hn⟩ : ∃ n, Hid (dayN loc = n) := ⟨_, rfl⟩
  have hd := dayN_bdL loc l0 l1
  rw [Hn.out] at hd
  rw [Hn.out]
  go_enter Try.func67, Try.ntmps67
  go_wp2_with fail
  refine (HA.out _ (hw.out.trans (((Below.refl _ _).alloc (Nat.le_refl _) _).mono hw.out.size))).mono ?_
  rintro e w1 ⟨rfl, hb⟩
  have b1 : Below w.heap.size w w1 := Below.trans (by repeat (first | (with_reducible assumption) | (with_reducible exact Below.refl _ _) | (with_reducible refine Below.setCell ?_ (by first | omega | (simp <;> omega)) _) | refine below_drewN ?_ _ | refine Below.drew ?_ | refine Below.alloc ?_ (by first | omega | (simp <;> omega)) _)) (hb.mono (by simp))
  clear hb
  go_wp2_with fail
  refine (days_any _ (by omega) (by omega) _).mono ?_
  rintro e w2 ⟨rfl, rfl⟩
  rw [dayN_absL, Hn.out]
  go_wp2_with fail
  refine (splitD_any n (by omega) hd.2 _).mono ?_
  rintro e w3 ⟨rfl, rfl⟩
  have ma := marchA_bd n
  have jb := janFeb_bd n
  go_wp2_with fail
  refine (ysplit_any _ ma.1 ma.2 _).mono ?_
  rintro e w4 ⟨rfl, rfl⟩
  go_wp2_with fail
  go_ret
  exact ⟨ret_i64 (by unfold dayOf; rfl), b1⟩

set_option maxHeartbeats 2000000 in
theorem weekdayL_any (w0 : World) (ns : Nat) (ext : Int) (pa : Option Addr) (loc : Int) (HA : Hid (AbsIs w0 ns ext (.pointer pa) loc)) (l0 : -86400 ≤ loc) (l1 : loc < 1000000000000) (w : World) (hw : Hid (Below w0.heap.size w0 w)) :
    Calls Try.prog 68 #[.agg #[.int .u64 ns, .int .i64 ext, .pointer pa]] w fun e w' => e = .returned (.int .i64 ((dayN loc + 4) % 7)) ∧ Below w.heap.size w w' := by
  obtain ⟨n, Hn⟩ : ∃ n, Hid (dayN loc = n) := ⟨_, rfl⟩
  have hd := dayN_bdL loc l0 l1
  rw [Hn.out] at hd
  rw [Hn.out]
  go_enter Try.func68, Try.ntmps68
  go_wp2_with fail
  refine (HA.out _ (hw.out.trans (((Below.refl _ _).alloc (Nat.le_refl _) _).mono hw.out.size))).mono ?_
  rintro e w1 ⟨rfl, hb⟩
  have b1 : Below w.heap.size w w1 := Below.trans (by repeat (first | (with_reducible assumption) | (with_reducible exact Below.refl _ _) | (with_reducible refine Below.setCell ?_ (by first | omega | (simp <;> omega)) _) | refine below_drewN ?_ _ | refine Below.drew ?_ | refine Below.alloc ?_ (by first | omega | (simp <;> omega)) _)) (hb.mono (by simp))
  clear hb
  go_wp2_with fail
  refine (days_any _ (by omega) (by omega) _).mono ?_
  rintro e w2 ⟨rfl, rfl⟩
  rw [dayN_absL, Hn.out]
  go_wp2_with fail
  refine (weekday_any _ (by omega) (by omega) _).mono ?_
  rintro e w3 ⟨rfl, rfl⟩
  go_wp2_with fail
  go_ret
  exact ⟨ret_i64 (by omega), b1⟩

set_option maxRecDepth 100000 in
set_option maxHeartbeats 4000000 in
theorem dayMatchesL_any (sg : Nat) (s : Sched) (hok : Hid s.ok) (w0 : World) (ns : Nat) (ext : Int) (pa : Option Addr) (loc : Int) (HA : Hid (AbsIs w0 ns ext (.pointer pa) loc)) (l0 : -86400 ≤ loc) (l1 : loc < 1000000000000) (n : Int) (Hn : Hid (dayN loc = n)) (w : World) (hw : Hid (Below w0.heap.size w0 w)) (hs : Hid (SchedAt w sg s)) :
    Calls Try.prog 51 #[.pointer (some ⟨sg, 0, none⟩), .agg #[.int .u64 ns, .int .i64 ext, .pointer pa]] w fun e w' => e = .returned (.bool (dayB s.dom s.dow (dayOf n).toNat ((n + 4) % 7).toNat)) ∧ Below w.heap.size w w' := by
  have db := day_bd n
  go_enter Try.func51, Try.ntmps51
  go_wp2_with fail
  obtain ⟨g, hg⟩ : ∃ g, g = w.heap.size := ⟨_, rfl⟩
  have HS : Hid (RowAt (w.alloc (.cells #[.int .u64 ns, .int .i64 ext, .pointer pa] 68)) g 68 #[.int .u64 ns, .int .i64 ext, .pointer pa] ∧ SchedAt (w.alloc (.cells #[.int .u64 ns, .int .i64 ext, .pointer pa] 68)) sg s ∧ Below w.heap.size w (w.alloc (.cells #[.int .u64 ns, .int .i64 ext, .pointer pa] 68))) := ⟨rowAt_last w _ _ _ hg, hs.out.alloc _, (Below.refl _ _).alloc (Nat.le_refl _) _⟩
  rw [← hg]
  clear hg
  refine wp_region_held_drew (S := fun w' => Hid (RowAt w' g 68 #[.int .u64 ns, .int .i64 ext, .pointer pa] ∧ SchedAt w' sg s ∧ Below w.heap.size w w')) (by kernel_rfl) (Lib.hid ⟨HS.out.1, HS.out.2.1, HS.out.2.2.drew⟩) (fun hHeld => ?_)
  (try simp only [Act.put, List.getElem_toArray, List.getElem_cons_zero, List.getElem_cons_succ, List.setIfInBounds_toArray, List.set_cons_zero, List.set_cons_succ])
  refine wpAnyH_take (i := 0) (v := ?_) rfl (by kernel_rfl) (by kernel_rfl) (by kernel_rfl) (fun _ _ _ h => h) (Or.inl ⟨by rfl, ?_⟩) (by assumption) ?_
  rotate_left
  · (intro wx hSw; have k0 : wx.cell? ⟨g, 0, none⟩ = some (.int .u64 ns) := hSw.out.1.cell 0; have k1 : wx.cell? ⟨g, 1, none⟩ = some (.int .i64 ext) := hSw.out.1.cell 1; have k2 : wx.cell? ⟨g, 2, none⟩ = some (.pointer pa) := hSw.out.1.cell 2; go_simp; (try with_reducible rfl))
  (try simp only [Act.put, List.getElem_toArray, List.getElem_cons_zero, List.getElem_cons_succ, List.setIfInBounds_toArray, List.set_cons_zero, List.set_cons_succ])
  refine wpAnyH_take (i := 4) (v := ?_) rfl (by kernel_rfl) (by kernel_rfl) (by kernel_rfl) (fun _ _ _ h => h) (Or.inl ⟨by rfl, ?_⟩) (by assumption) ?_
  rotate_left
  · (intro wx hSw; go_simp; (try with_reducible rfl))
  (try simp only [Act.put, List.getElem_toArray, List.getElem_cons_zero, List.getElem_cons_succ, List.setIfInBounds_toArray, List.set_cons_zero, List.set_cons_succ])
  refine wpAnyH_take (i := 5) (v := ?_) rfl (by kernel_rfl) (by kernel_rfl) (by kernel_rfl) (fun _ _ _ h => h) (Or.inl ⟨by rfl, ?_⟩) (by assumption) ?_
  rotate_left
  · (intro wx hSw; go_simp; (try with_reducible rfl))
  (try simp only [Act.put, List.getElem_toArray, List.getElem_cons_zero, List.getElem_cons_succ, List.setIfInBounds_toArray, List.set_cons_zero, List.set_cons_succ])
  refine wpAnyH_take (i := 6) (v := ?_) rfl (by kernel_rfl) (by kernel_rfl) (by kernel_rfl) (fun _ _ _ h => h) (Or.inl ⟨by rfl, ?_⟩) (by assumption) ?_
  rotate_left
  · (intro wx hSw; go_simp; (try with_reducible rfl))
  (try simp only [Act.put, List.getElem_toArray, List.getElem_cons_zero, List.getElem_cons_succ, List.setIfInBounds_toArray, List.set_cons_zero, List.set_cons_succ])
  refine wpAnyH_take (i := 7) (v := ?_) rfl (by kernel_rfl) (by kernel_rfl) (by kernel_rfl) (fun _ _ _ h => h) (Or.inl ⟨by rfl, ?_⟩) (by assumption) ?_
  rotate_left
  · (intro wx hSw; have q : wx.cell? ⟨sg, 3, none⟩ = some (.int .u64 s.dom) := hSw.out.2.1.cell 3; go_simp; (try with_reducible rfl))
  (try simp only [Act.put, List.getElem_toArray, List.getElem_cons_zero, List.getElem_cons_succ, List.setIfInBounds_toArray, List.set_cons_zero, List.set_cons_succ])
  refine wpAnyH_ready (rs := [1]) (by kernel_rfl) (by simp) ?_
  refine (AllReadyH.cons rfl (fun K hK => ?_) AllReadyH.nil)
  go_simp
  go_at_call 67
  refine (dayL_any w0 ns ext pa loc HA l0 l1 _ (Lib.hid (hw.out.trans (hHeld.out.2.2.mono hw.out.size)))).mono ?_
  rintro e w1 ⟨rfl, hb1⟩
  have HN : Hid (RowAt w1 g 68 #[.int .u64 ns, .int .i64 ext, .pointer pa] ∧ SchedAt w1 sg s ∧ Below w.heap.size w w1) := ⟨hHeld.out.1.below hb1, hHeld.out.2.1.below hb1, hHeld.out.2.2.trans ((hb1).mono hHeld.out.2.2.size)⟩
  clear hb1
  rw [Hn.out]
  refine hK.out _ _ HN (fun hH2 => ?_)
  clear hK K hHeld 
  have hHeld := hH2
  clear hH2
  (try simp only [Act.put, List.getElem_toArray, List.getElem_cons_zero, List.getElem_cons_succ, List.setIfInBounds_toArray, List.set_cons_zero, List.set_cons_succ])
  refine wpAnyH_take (i := 2) (v := ?_) rfl (by kernel_rfl) (by kernel_rfl) (by kernel_rfl) (fun _ _ _ h => h) (Or.inl ⟨by rfl, ?_⟩) (by assumption) ?_
  rotate_left
  · (intro wx hSw; go_simp; (try with_reducible rfl))
  (try simp only [Act.put, List.getElem_toArray, List.getElem_cons_zero, List.getElem_cons_succ, List.setIfInBounds_toArray, List.set_cons_zero, List.set_cons_succ])
  refine wpAnyH_take (i := 3) (v := ?_) rfl (by kernel_rfl) (by kernel_rfl) (by kernel_rfl) (fun _ _ _ h => h) (Or.inl ⟨by rfl, ?_⟩) (by assumption) ?_
  rotate_left
  · (intro wx hSw; go_simp; (try with_reducible rfl))
  (try simp only [Act.put, List.getElem_toArray, List.getElem_cons_zero, List.getElem_cons_succ, List.setIfInBounds_toArray, List.set_cons_zero, List.set_cons_succ])
  refine wpAnyH_take (i := 8) (v := ?_) rfl (by kernel_rfl) (by kernel_rfl) (by kernel_rfl) (fun _ _ _ h => h) (Or.inl ⟨by rfl, ?_⟩) (by assumption) ?_
  rotate_left
  · (intro wx hSw; go_simp; (try with_reducible rfl))
  (try simp only [Act.put, List.getElem_toArray, List.getElem_cons_zero, List.getElem_cons_succ, List.setIfInBounds_toArray, List.set_cons_zero, List.set_cons_succ])
  refine wpAnyH_take (i := 9) (v := ?_) rfl (by kernel_rfl) (by kernel_rfl) (by kernel_rfl) (fun _ _ _ h => h) (Or.inl ⟨by rfl, ?_⟩) (by assumption) ?_
  rotate_left
  · (intro wx hSw; go_simp; (try with_reducible rfl))
  (try simp only [Act.put, List.getElem_toArray, List.getElem_cons_zero, List.getElem_cons_succ, List.setIfInBounds_toArray, List.set_cons_zero, List.set_cons_succ])
  refine wpAnyH_take (i := 10) (v := ?_) rfl (by kernel_rfl) (by kernel_rfl) (by kernel_rfl) (fun _ _ _ h => h) (Or.inl ⟨by rfl, ?_⟩) (by assumption) ?_
  rotate_left
  · (intro wx hSw; go_simp; (try with_reducible rfl))
  (try simp only [Act.put, List.getElem_toArray, List.getElem_cons_zero, List.getElem_cons_succ, List.setIfInBounds_toArray, List.set_cons_zero, List.set_cons_succ])
  refine wpAnyH_done (by kernel_rfl) ?_ _
  rw [bitPos _ (by omega) (by omega) _ hok.out.2.2.2.1]
  obtain ⟨bd, Hbd⟩ : ∃ bd, Hid (s.dom.testBit (dayOf n).toNat = bd) := ⟨_, rfl⟩
  rw [Hbd.out]
  go_wp2_with fail
  refine wp_region_held_drew (S := fun w' => Hid (RowAt w' g 68 #[.int .u64 ns, .int .i64 ext, .pointer pa] ∧ SchedAt w' sg s ∧ Below w.heap.size w w')) (by kernel_rfl) (Lib.hid ⟨HN.out.1, HN.out.2.1, HN.out.2.2.drew⟩) (fun hHeld => ?_)
  (try simp only [Act.put, List.getElem_toArray, List.getElem_cons_zero, List.getElem_cons_succ, List.setIfInBounds_toArray, List.set_cons_zero, List.set_cons_succ])
  clear HN
  refine wpAnyH_take (i := 0) (v := ?_) rfl (by kernel_rfl) (by kernel_rfl) (by kernel_rfl) (fun _ _ _ h => h) (Or.inl ⟨by rfl, ?_⟩) (by assumption) ?_
  rotate_left
  · (intro wx hSw; have k0 : wx.cell? ⟨g, 0, none⟩ = some (.int .u64 ns) := hSw.out.1.cell 0; have k1 : wx.cell? ⟨g, 1, none⟩ = some (.int .i64 ext) := hSw.out.1.cell 1; have k2 : wx.cell? ⟨g, 2, none⟩ = some (.pointer pa) := hSw.out.1.cell 2; go_simp; (try with_reducible rfl))
  (try simp only [Act.put, List.getElem_toArray, List.getElem_cons_zero, List.getElem_cons_succ, List.setIfInBounds_toArray, List.set_cons_zero, List.set_cons_succ])
  refine wpAnyH_take (i := 4) (v := ?_) rfl (by kernel_rfl) (by kernel_rfl) (by kernel_rfl) (fun _ _ _ h => h) (Or.inl ⟨by rfl, ?_⟩) (by assumption) ?_
  rotate_left
  · (intro wx hSw; go_simp; (try with_reducible rfl))
  (try simp only [Act.put, List.getElem_toArray, List.getElem_cons_zero, List.getElem_cons_succ, List.setIfInBounds_toArray, List.set_cons_zero, List.set_cons_succ])
  refine wpAnyH_take (i := 5) (v := ?_) rfl (by kernel_rfl) (by kernel_rfl) (by kernel_rfl) (fun _ _ _ h => h) (Or.inl ⟨by rfl, ?_⟩) (by assumption) ?_
  rotate_left
  · (intro wx hSw; go_simp; (try with_reducible rfl))
  (try simp only [Act.put, List.getElem_toArray, List.getElem_cons_zero, List.getElem_cons_succ, List.setIfInBounds_toArray, List.set_cons_zero, List.set_cons_succ])
  refine wpAnyH_take (i := 6) (v := ?_) rfl (by kernel_rfl) (by kernel_rfl) (by kernel_rfl) (fun _ _ _ h => h) (Or.inl ⟨by rfl, ?_⟩) (by assumption) ?_
  rotate_left
  · (intro wx hSw; go_simp; (try with_reducible rfl))
  (try simp only [Act.put, List.getElem_toArray, List.getElem_cons_zero, List.getElem_cons_succ, List.setIfInBounds_toArray, List.set_cons_zero, List.set_cons_succ])
  refine wpAnyH_take (i := 7) (v := ?_) rfl (by kernel_rfl) (by kernel_rfl) (by kernel_rfl) (fun _ _ _ h => h) (Or.inl ⟨by rfl, ?_⟩) (by assumption) ?_
  rotate_left
  · (intro wx hSw; have q : wx.cell? ⟨sg, 5, none⟩ = some (.int .u64 s.dow) := hSw.out.2.1.cell 5; go_simp; (try with_reducible rfl))
  (try simp only [Act.put, List.getElem_toArray, List.getElem_cons_zero, List.getElem_cons_succ, List.setIfInBounds_toArray, List.set_cons_zero, List.set_cons_succ])
  refine wpAnyH_ready (rs := [1]) (by kernel_rfl) (by simp) ?_
  refine (AllReadyH.cons rfl (fun K hK => ?_) AllReadyH.nil)
  go_simp
  go_at_call 68
  refine (weekdayL_any w0 ns ext pa loc HA l0 l1 _ (Lib.hid (hw.out.trans (hHeld.out.2.2.mono hw.out.size)))).mono ?_
  rintro e w2 ⟨rfl, hb2⟩
  have HN : Hid (RowAt w2 g 68 #[.int .u64 ns, .int .i64 ext, .pointer pa] ∧ SchedAt w2 sg s ∧ Below w.heap.size w w2) := ⟨hHeld.out.1.below hb2, hHeld.out.2.1.below hb2, hHeld.out.2.2.trans ((hb2).mono hHeld.out.2.2.size)⟩
  clear hb2
  rw [Hn.out]
  refine hK.out _ _ HN (fun hH2 => ?_)
  clear hK K hHeld 
  have hHeld := hH2
  clear hH2
  (try simp only [Act.put, List.getElem_toArray, List.getElem_cons_zero, List.getElem_cons_succ, List.setIfInBounds_toArray, List.set_cons_zero, List.set_cons_succ])
  refine wpAnyH_take (i := 2) (v := ?_) rfl (by kernel_rfl) (by kernel_rfl) (by kernel_rfl) (fun _ _ _ h => h) (Or.inl ⟨by rfl, ?_⟩) (by assumption) ?_
  rotate_left
  · (intro wx hSw; go_simp; (try with_reducible rfl))
  (try simp only [Act.put, List.getElem_toArray, List.getElem_cons_zero, List.getElem_cons_succ, List.setIfInBounds_toArray, List.set_cons_zero, List.set_cons_succ])
  refine wpAnyH_take (i := 3) (v := ?_) rfl (by kernel_rfl) (by kernel_rfl) (by kernel_rfl) (fun _ _ _ h => h) (Or.inl ⟨by rfl, ?_⟩) (by assumption) ?_
  rotate_left
  · (intro wx hSw; go_simp; (try with_reducible rfl))
  (try simp only [Act.put, List.getElem_toArray, List.getElem_cons_zero, List.getElem_cons_succ, List.setIfInBounds_toArray, List.set_cons_zero, List.set_cons_succ])
  refine wpAnyH_take (i := 8) (v := ?_) rfl (by kernel_rfl) (by kernel_rfl) (by kernel_rfl) (fun _ _ _ h => h) (Or.inl ⟨by rfl, ?_⟩) (by assumption) ?_
  rotate_left
  · (intro wx hSw; go_simp; (try with_reducible rfl))
  (try simp only [Act.put, List.getElem_toArray, List.getElem_cons_zero, List.getElem_cons_succ, List.setIfInBounds_toArray, List.set_cons_zero, List.set_cons_succ])
  refine wpAnyH_take (i := 9) (v := ?_) rfl (by kernel_rfl) (by kernel_rfl) (by kernel_rfl) (fun _ _ _ h => h) (Or.inl ⟨by rfl, ?_⟩) (by assumption) ?_
  rotate_left
  · (intro wx hSw; go_simp; (try with_reducible rfl))
  (try simp only [Act.put, List.getElem_toArray, List.getElem_cons_zero, List.getElem_cons_succ, List.setIfInBounds_toArray, List.set_cons_zero, List.set_cons_succ])
  refine wpAnyH_take (i := 10) (v := ?_) rfl (by kernel_rfl) (by kernel_rfl) (by kernel_rfl) (fun _ _ _ h => h) (Or.inl ⟨by rfl, ?_⟩) (by assumption) ?_
  rotate_left
  · (intro wx hSw; go_simp; (try with_reducible rfl))
  (try simp only [Act.put, List.getElem_toArray, List.getElem_cons_zero, List.getElem_cons_succ, List.setIfInBounds_toArray, List.set_cons_zero, List.set_cons_succ])
  refine wpAnyH_done (by kernel_rfl) ?_ _
  rw [bitPos _ (by omega) (by omega) _ hok.out.2.2.2.2.2]
  obtain ⟨bw, Hbw⟩ : ∃ bw, Hid (s.dow.testBit ((n + 4) % 7).toNat = bw) := ⟨_, rfl⟩
  rw [Hbw.out]
  have q1 : w2.cell? ⟨sg, 3, none⟩ = some (.int .u64 s.dom) := HN.out.2.1.cell 3
  have q2 : w2.cell? ⟨sg, 5, none⟩ = some (.int .u64 s.dow) := HN.out.2.1.cell 5
  have P1 := starPos s.dom hok.out.2.2.2.1
  have P2 := starPos s.dow hok.out.2.2.2.2.2
  obtain ⟨t1, T1⟩ : ∃ t1, Hid (s.dom.testBit 63 = t1) := ⟨_, rfl⟩
  obtain ⟨t2, T2⟩ : ∃ t2, Hid (s.dow.testBit 63 = t2) := ⟨_, rfl⟩
  rw [T1.out] at P1
  rw [T2.out] at P2
  have HD : Hid (dayB s.dom s.dow (dayOf n).toNat ((n + 4) % 7).toNat = if t1 || t2 then bd && bw else bd || bw) := by show _ = _; unfold dayB; rw [T1.out, T2.out, Hbd.out, Hbw.out]
  cases t1 <;> cases t2 <;> cases bd <;> cases bw
  all_goals
    go_wp2_with fail
    go_ret
    exact ⟨ret_bool (by rw [HD.out]; rfl), HN.out.2.2⟩

set_option maxRecDepth 100000 in
set_option maxHeartbeats 2000000 in
theorem zzDayMatches_any (dom dow : Nat) (hdom : dom < 18446744073709551616) (hdow : dow < 18446744073709551616) (w0 : World) (ns : Nat) (ext : Int) (pa : Option Addr) (loc : Int) (HA : Hid (AbsIs w0 ns ext (.pointer pa) loc)) (l0 : -86400 ≤ loc) (l1 : loc < 1000000000000) (n : Int) (Hn : Hid (dayN loc = n)) (w : World) (hw : Hid (Below w0.heap.size w0 w)) :
    Calls Try.prog 33 #[.int .u64 dom, .int .u64 dow, .agg #[.int .u64 ns, .int .i64 ext, .pointer pa]] w fun e w' => e = .returned (.bool (dayB dom dow (dayOf n).toNat ((n + 4) % 7).toNat)) ∧ Below w.heap.size w w' := by
  go_enter Try.func33, Try.ntmps33
  go_wp2_with fail
  have hb0 : Below w.heap.size w ((w.alloc (.cells #[.int .u64 ns, .int .i64 ext, .pointer pa] 68)).alloc (.cells #[.int .u64 0, .int .u64 0, .int .u64 0, .int .u64 dom, .int .u64 0, .int .u64 dow, .pointer none] 96)) := (by repeat (first | (with_reducible assumption) | (with_reducible exact Below.refl _ _) | (with_reducible refine Below.setCell ?_ (by first | omega | (simp <;> omega)) _) | refine below_drewN ?_ _ | refine Below.drew ?_ | refine Below.alloc ?_ (by first | omega | (simp <;> omega)) _))
  have hs : Hid (SchedAt ((w.alloc (.cells #[.int .u64 ns, .int .i64 ext, .pointer pa] 68)).alloc (.cells #[.int .u64 0, .int .u64 0, .int .u64 0, .int .u64 dom, .int .u64 0, .int .u64 dow, .pointer none] 96)) (w.heap.size + 1) ⟨0, 0, 0, dom, 0, dow⟩) := Lib.hid (rowAt_last _ _ _ _ (by simp))
  refine (dayMatchesL_any (w.heap.size + 1) ⟨0, 0, 0, dom, 0, dow⟩ (Lib.hid ⟨z64, z64, z64, hdom, z64, hdow⟩) w0 ns ext pa loc HA l0 l1 n Hn _ (Lib.hid (hw.out.trans (hb0.mono hw.out.size))) hs).mono ?_
  rintro e w2 ⟨rfl, hb⟩
  have b2 := hb0.trans (hb.mono hb0.size)
  clear hb hs hb0
  go_wp2_with fail
  go_ret
  exact ⟨rfl, b2⟩

end Go.Proofs.Ytpgclepiagfgfaa
