/- cron.dayMatches in UTC. -/
import Derived.Test.YtkhggefbkhdimaaGreatDoorTmQ
namespace Go.Proofs.YtkhggefbkhdimaaGreatDoor
open Go.RowKit
set_option linter.unusedVariables false
set_option linter.unusedSimpArgs false

abbrev SchedAt (w : World) (g : Nat) (s : Sched) : Prop := RowAt w g 105 #[.int .u64 s.se, .int .u64 s.mi, .int .u64 s.ho, .int .u64 s.dom, .int .u64 s.mo, .int .u64 s.dow, .pointer none]

theorem pow_and (s n : Nat) : 2 ^ n &&& s = if s.testBit n then 2 ^ n else 0 := by
  apply Nat.eq_of_testBit_eq
  intro i
  rw [Nat.testBit_and, Nat.testBit_two_pow]
  by_cases hi : n = i
  · subst hi
    by_cases hb : s.testBit n = true
    · simp [hb, Nat.testBit_two_pow]
    · simp at hb; simp [hb]
  · by_cases hb : s.testBit n = true
    · simp [hb, hi, Nat.testBit_two_pow]
    · simp at hb; simp [hb, hi]
theorem pow_pos2 (n : Nat) : (0 : Int) < ((2 ^ n : Nat) : Int) := Int.natCast_pos.2 (Nat.pow_pos (by decide))
theorem shl_and (d : Int) (h0 : 0 ≤ d) (h1 : d < 64) (s : Nat) (hs : s < 18446744073709551616) :
    bits .and .u64 (IntKind.u64.wrap (2 ^ min (IntKind.u64.wrap d).toNat 64)) (s : Int) = if s.testBit d.toNat then ((2 ^ d.toNat : Nat) : Int) else 0 := by
  obtain ⟨k, rfl⟩ : ∃ k : Nat, d = k := ⟨d.toNat, by omega⟩
  have e1 : IntKind.u64.wrap (k : Int) = k := by rw [IntKind.wrap_u64]; omega
  have hk : k < 64 := by omega
  have hp : 2 ^ k < 18446744073709551616 := Nat.lt_of_lt_of_le (Nat.pow_lt_pow_right (a := 2) (by decide) hk) (by decide)
  rw [e1, Int.toNat_natCast, Nat.min_eq_left (by omega)]
  have e2 : IntKind.u64.wrap (2 ^ k) = ((2 ^ k : Nat) : Int) := by
    have : ((2 : Int) ^ k) = ((2 ^ k : Nat) : Int) := by push_cast; rfl
    rw [this]
    have h0 := pow_pos2 k
    generalize 2 ^ k = x at *
    rw [IntKind.wrap_u64]; omega
  rw [e2, u64_and_nat (2 ^ k) s hp hs, pow_and]
  split <;> rfl
theorem bitPos (d : Int) (h0 : 0 ≤ d) (h1 : d < 64) (s : Nat) (hs : s < 18446744073709551616) :
    decide (0 < bits .and .u64 (IntKind.u64.wrap (2 ^ min (IntKind.u64.wrap d).toNat 64)) (s : Int)) = s.testBit d.toNat := by
  rw [shl_and d h0 h1 s hs]
  cases s.testBit d.toNat with
  | true => exact decide_eq_true (pow_pos2 _)
  | false => rfl
theorem bitZero (d : Int) (h0 : 0 ≤ d) (h1 : d < 64) (s : Nat) (hs : s < 18446744073709551616) :
    (bits .and .u64 (IntKind.u64.wrap (2 ^ min (IntKind.u64.wrap d).toNat 64)) (s : Int) == 0) = !s.testBit d.toNat := by
  rw [shl_and d h0 h1 s hs]
  cases s.testBit d.toNat with
  | true => have := pow_pos2 d.toNat; simp only [if_true, Bool.not_true, beq_eq_false_iff_ne, ne_eq]; omega
  | false => rfl
theorem starPos (s : Nat) (hs : s < 18446744073709551616) : decide (0 < bits .and .u64 (s : Int) 9223372036854775808) = s.testBit 63 := by
  rw [show (9223372036854775808 : Int) = ((2 ^ 63 : Nat) : Int) from rfl, u64_and_nat s (2 ^ 63) hs (by decide), Nat.and_comm, pow_and]
  cases s.testBit 63 <;> rfl

set_option maxRecDepth 100000 in
set_option maxHeartbeats 1000000 in
theorem dayMatches_any (sg : Nat) (s : Sched) (hok : Hid s.ok) (ext : Int) (he : 0 ≤ ext) (he2 : ext < 600000000000) (n : Int) (Hn : Hid (dayN ext = n)) (w : World) (hs : Hid (SchedAt w sg s)) :
    Calls Tryz.prog 197 #[.pointer (some ⟨sg, 0, none⟩), .agg #[.int .u64 0, .int .i64 ext, .pointer none]] w fun e w' => e = .returned (.bool (dayB s.dom s.dow (dayOf n).toNat ((n + 4) % 7).toNat)) ∧ Below w.heap.size w w' := by
  have db := day_bd n
  go_enter Tryz.func197, Tryz.ntmps197
  go_wp2_with fail
  obtain ⟨g, hg⟩ : ∃ g, g = w.heap.size := ⟨_, rfl⟩
  have HS : Hid (TmAt (w.alloc (.cells #[.int .u64 0, .int .i64 ext, .pointer none] 95)) g 0 ext ∧ SchedAt (w.alloc (.cells #[.int .u64 0, .int .i64 ext, .pointer none] 95)) sg s ∧ Below w.heap.size w (w.alloc (.cells #[.int .u64 0, .int .i64 ext, .pointer none] 95))) := ⟨rowAt_last w _ _ _ hg, hs.out.alloc _, (Below.refl _ _).alloc (Nat.le_refl _) _⟩
  rw [← hg]
  clear hg
  refine wp_region_held_drew (S := fun w' => Hid (TmAt w' g 0 ext ∧ SchedAt w' sg s ∧ Below w.heap.size w w')) (by kernel_rfl) (Lib.hid ⟨HS.out.1, HS.out.2.1, HS.out.2.2.drew⟩) (fun hHeld => ?_)
  (try simp only [Act.put, List.getElem_toArray, List.getElem_cons_zero, List.getElem_cons_succ, List.setIfInBounds_toArray, List.set_cons_zero, List.set_cons_succ])
  refine wpAnyH_take (i := 0) (v := ?_) rfl (by kernel_rfl) (by kernel_rfl) (by kernel_rfl) (fun _ _ _ h => h) (Or.inl ⟨by rfl, ?_⟩) (by assumption) ?_
  rotate_left
  · (intro wx hSw; have k0 : wx.cell? ⟨g, 0, none⟩ = some (.int .u64 0) := hSw.out.1.cell 0; have k1 : wx.cell? ⟨g, 1, none⟩ = some (.int .i64 ext) := hSw.out.1.cell 1; have k2 : wx.cell? ⟨g, 2, none⟩ = some (.pointer none) := hSw.out.1.cell 2; go_simp; (try with_reducible rfl))
  (try simp only [Act.put, List.getElem_toArray, List.getElem_cons_zero, List.getElem_cons_succ, List.setIfInBounds_toArray, List.set_cons_zero, List.set_cons_succ])
  refine wpAnyH_take (i := 4) (v := ?_) rfl (by kernel_rfl) (by kernel_rfl) (by kernel_rfl) (fun _ _ _ h => h) (Or.inl ⟨by rfl, ?_⟩) (by assumption) ?_
  rotate_left
  · (intro wx hSw; go_simp; (try with_reducible rfl))
  (try simp only [Act.put, List.getElem_toArray, List.getElem_cons_zero, List.getElem_cons_succ, List.setIfInBounds_toArray, List.set_cons_zero, List.set_cons_succ])
  refine wpAnyH_take (i := 5) (v := ?_) rfl (by kernel_rfl) (by kernel_rfl) (by kernel_rfl) (fun _ _ _ h => h) (Or.inl ⟨by rfl, ?_⟩) (by assumption) ?_
  rotate_left
  · (intro wx hSw; go_simp; (try with_reducible rfl))
  (try simp only [Act.put, List.getElem_toArray, List.getElem_cons_zero, List.getElem_cons_succ, List.setIfInBounds_toArray, List.set_cons_zero, List.set_cons_succ])
  refine wpAnyH_take (i := 6) (v := ?_) rfl (by kernel_rfl) (by kernel_rfl) (by kernel_rfl) (fun _ _ _ h => h) (Or.inl ⟨by rfl, ?_⟩) (by assumption) ?_
  rotate_left
  · (intro wx hSw; go_simp; (try with_reducible rfl))
  (try simp only [Act.put, List.getElem_toArray, List.getElem_cons_zero, List.getElem_cons_succ, List.setIfInBounds_toArray, List.set_cons_zero, List.set_cons_succ])
  refine wpAnyH_take (i := 7) (v := ?_) rfl (by kernel_rfl) (by kernel_rfl) (by kernel_rfl) (fun _ _ _ h => h) (Or.inl ⟨by rfl, ?_⟩) (by assumption) ?_
  rotate_left
  · (intro wx hSw; have q : wx.cell? ⟨sg, 3, none⟩ = some (.int .u64 s.dom) := hSw.out.2.1.cell 3; go_simp; (try with_reducible rfl))
  (try simp only [Act.put, List.getElem_toArray, List.getElem_cons_zero, List.getElem_cons_succ, List.setIfInBounds_toArray, List.set_cons_zero, List.set_cons_succ])
  refine wpAnyH_ready (rs := [1]) (by kernel_rfl) (by simp) ?_
  refine (AllReadyH.cons rfl (fun K hK => ?_) AllReadyH.nil)
  go_simp
  go_at_call 189
  refine (tDay_any 0 ext (by decide) he (by omega) _).mono ?_
  rintro e w1 ⟨rfl, hb1⟩
  have HN : Hid (TmAt w1 g 0 ext ∧ SchedAt w1 sg s ∧ Below w.heap.size w w1) := ⟨hHeld.out.1.below hb1, hHeld.out.2.1.below hb1, hHeld.out.2.2.trans ((hb1).mono hHeld.out.2.2.size)⟩
  clear hb1
  rw [Hn.out]
  refine hK.out _ _ HN (fun hH2 => ?_)
  clear hK K hHeld 
  have hHeld := hH2
  clear hH2
  (try simp only [Act.put, List.getElem_toArray, List.getElem_cons_zero, List.getElem_cons_succ, List.setIfInBounds_toArray, List.set_cons_zero, List.set_cons_succ])
  refine wpAnyH_take (i := 2) (v := ?_) rfl (by kernel_rfl) (by kernel_rfl) (by kernel_rfl) (fun _ _ _ h => h) (Or.inl ⟨by rfl, ?_⟩) (by assumption) ?_
  rotate_left
  · (intro wx hSw; go_simp; (try with_reducible rfl))
  (try simp only [Act.put, List.getElem_toArray, List.getElem_cons_zero, List.getElem_cons_succ, List.setIfInBounds_toArray, List.set_cons_zero, List.set_cons_succ])
  refine wpAnyH_take (i := 3) (v := ?_) rfl (by kernel_rfl) (by kernel_rfl) (by kernel_rfl) (fun _ _ _ h => h) (Or.inl ⟨by rfl, ?_⟩) (by assumption) ?_
  rotate_left
  · (intro wx hSw; go_simp; (try with_reducible rfl))
  (try simp only [Act.put, List.getElem_toArray, List.getElem_cons_zero, List.getElem_cons_succ, List.setIfInBounds_toArray, List.set_cons_zero, List.set_cons_succ])
  refine wpAnyH_take (i := 8) (v := ?_) rfl (by kernel_rfl) (by kernel_rfl) (by kernel_rfl) (fun _ _ _ h => h) (Or.inl ⟨by rfl, ?_⟩) (by assumption) ?_
  rotate_left
  · (intro wx hSw; go_simp; (try with_reducible rfl))
  (try simp only [Act.put, List.getElem_toArray, List.getElem_cons_zero, List.getElem_cons_succ, List.setIfInBounds_toArray, List.set_cons_zero, List.set_cons_succ])
  refine wpAnyH_take (i := 9) (v := ?_) rfl (by kernel_rfl) (by kernel_rfl) (by kernel_rfl) (fun _ _ _ h => h) (Or.inl ⟨by rfl, ?_⟩) (by assumption) ?_
  rotate_left
  · (intro wx hSw; go_simp; (try with_reducible rfl))
  (try simp only [Act.put, List.getElem_toArray, List.getElem_cons_zero, List.getElem_cons_succ, List.setIfInBounds_toArray, List.set_cons_zero, List.set_cons_succ])
  refine wpAnyH_take (i := 10) (v := ?_) rfl (by kernel_rfl) (by kernel_rfl) (by kernel_rfl) (fun _ _ _ h => h) (Or.inl ⟨by rfl, ?_⟩) (by assumption) ?_
  rotate_left
  · (intro wx hSw; go_simp; (try with_reducible rfl))
  (try simp only [Act.put, List.getElem_toArray, List.getElem_cons_zero, List.getElem_cons_succ, List.setIfInBounds_toArray, List.set_cons_zero, List.set_cons_succ])
  refine wpAnyH_done (by kernel_rfl) ?_ _
  rw [bitPos _ (by omega) (by omega) _ hok.out.2.2.2.1]
  obtain ⟨bd, Hbd⟩ : ∃ bd, Hid (s.dom.testBit (dayOf n).toNat = bd) := ⟨_, rfl⟩
  rw [Hbd.out]
  go_wp2_with fail
  refine wp_region_held_drew (S := fun w' => Hid (TmAt w' g 0 ext ∧ SchedAt w' sg s ∧ Below w.heap.size w w')) (by kernel_rfl) (Lib.hid ⟨HN.out.1, HN.out.2.1, HN.out.2.2.drew⟩) (fun hHeld => ?_)
  (try simp only [Act.put, List.getElem_toArray, List.getElem_cons_zero, List.getElem_cons_succ, List.setIfInBounds_toArray, List.set_cons_zero, List.set_cons_succ])
  clear HN
  refine wpAnyH_take (i := 0) (v := ?_) rfl (by kernel_rfl) (by kernel_rfl) (by kernel_rfl) (fun _ _ _ h => h) (Or.inl ⟨by rfl, ?_⟩) (by assumption) ?_
  rotate_left
  · (intro wx hSw; have k0 : wx.cell? ⟨g, 0, none⟩ = some (.int .u64 0) := hSw.out.1.cell 0; have k1 : wx.cell? ⟨g, 1, none⟩ = some (.int .i64 ext) := hSw.out.1.cell 1; have k2 : wx.cell? ⟨g, 2, none⟩ = some (.pointer none) := hSw.out.1.cell 2; go_simp; (try with_reducible rfl))
  (try simp only [Act.put, List.getElem_toArray, List.getElem_cons_zero, List.getElem_cons_succ, List.setIfInBounds_toArray, List.set_cons_zero, List.set_cons_succ])
  refine wpAnyH_take (i := 4) (v := ?_) rfl (by kernel_rfl) (by kernel_rfl) (by kernel_rfl) (fun _ _ _ h => h) (Or.inl ⟨by rfl, ?_⟩) (by assumption) ?_
  rotate_left
  · (intro wx hSw; go_simp; (try with_reducible rfl))
  (try simp only [Act.put, List.getElem_toArray, List.getElem_cons_zero, List.getElem_cons_succ, List.setIfInBounds_toArray, List.set_cons_zero, List.set_cons_succ])
  refine wpAnyH_take (i := 5) (v := ?_) rfl (by kernel_rfl) (by kernel_rfl) (by kernel_rfl) (fun _ _ _ h => h) (Or.inl ⟨by rfl, ?_⟩) (by assumption) ?_
  rotate_left
  · (intro wx hSw; go_simp; (try with_reducible rfl))
  (try simp only [Act.put, List.getElem_toArray, List.getElem_cons_zero, List.getElem_cons_succ, List.setIfInBounds_toArray, List.set_cons_zero, List.set_cons_succ])
  refine wpAnyH_take (i := 6) (v := ?_) rfl (by kernel_rfl) (by kernel_rfl) (by kernel_rfl) (fun _ _ _ h => h) (Or.inl ⟨by rfl, ?_⟩) (by assumption) ?_
  rotate_left
  · (intro wx hSw; go_simp; (try with_reducible rfl))
  (try simp only [Act.put, List.getElem_toArray, List.getElem_cons_zero, List.getElem_cons_succ, List.setIfInBounds_toArray, List.set_cons_zero, List.set_cons_succ])
  refine wpAnyH_take (i := 7) (v := ?_) rfl (by kernel_rfl) (by kernel_rfl) (by kernel_rfl) (fun _ _ _ h => h) (Or.inl ⟨by rfl, ?_⟩) (by assumption) ?_
  rotate_left
  · (intro wx hSw; have q : wx.cell? ⟨sg, 5, none⟩ = some (.int .u64 s.dow) := hSw.out.2.1.cell 5; go_simp; (try with_reducible rfl))
  (try simp only [Act.put, List.getElem_toArray, List.getElem_cons_zero, List.getElem_cons_succ, List.setIfInBounds_toArray, List.set_cons_zero, List.set_cons_succ])
  refine wpAnyH_ready (rs := [1]) (by kernel_rfl) (by simp) ?_
  refine (AllReadyH.cons rfl (fun K hK => ?_) AllReadyH.nil)
  go_simp
  go_at_call 215
  refine (tWeekday_any 0 ext (by decide) he (by omega) _).mono ?_
  rintro e w2 ⟨rfl, hb2⟩
  have HN : Hid (TmAt w2 g 0 ext ∧ SchedAt w2 sg s ∧ Below w.heap.size w w2) := ⟨hHeld.out.1.below hb2, hHeld.out.2.1.below hb2, hHeld.out.2.2.trans ((hb2).mono hHeld.out.2.2.size)⟩
  clear hb2
  rw [Hn.out]
  refine hK.out _ _ HN (fun hH2 => ?_)
  clear hK K hHeld 
  have hHeld := hH2
  clear hH2
  (try simp only [Act.put, List.getElem_toArray, List.getElem_cons_zero, List.getElem_cons_succ, List.setIfInBounds_toArray, List.set_cons_zero, List.set_cons_succ])
  refine wpAnyH_take (i := 2) (v := ?_) rfl (by kernel_rfl) (by kernel_rfl) (by kernel_rfl) (fun _ _ _ h => h) (Or.inl ⟨by rfl, ?_⟩) (by assumption) ?_
  rotate_left
  · (intro wx hSw; go_simp; (try with_reducible rfl))
  (try simp only [Act.put, List.getElem_toArray, List.getElem_cons_zero, List.getElem_cons_succ, List.setIfInBounds_toArray, List.set_cons_zero, List.set_cons_succ])
  refine wpAnyH_take (i := 3) (v := ?_) rfl (by kernel_rfl) (by kernel_rfl) (by kernel_rfl) (fun _ _ _ h => h) (Or.inl ⟨by rfl, ?_⟩) (by assumption) ?_
  rotate_left
  · (intro wx hSw; go_simp; (try with_reducible rfl))
  (try simp only [Act.put, List.getElem_toArray, List.getElem_cons_zero, List.getElem_cons_succ, List.setIfInBounds_toArray, List.set_cons_zero, List.set_cons_succ])
  refine wpAnyH_take (i := 8) (v := ?_) rfl (by kernel_rfl) (by kernel_rfl) (by kernel_rfl) (fun _ _ _ h => h) (Or.inl ⟨by rfl, ?_⟩) (by assumption) ?_
  rotate_left
  · (intro wx hSw; go_simp; (try with_reducible rfl))
  (try simp only [Act.put, List.getElem_toArray, List.getElem_cons_zero, List.getElem_cons_succ, List.setIfInBounds_toArray, List.set_cons_zero, List.set_cons_succ])
  refine wpAnyH_take (i := 9) (v := ?_) rfl (by kernel_rfl) (by kernel_rfl) (by kernel_rfl) (fun _ _ _ h => h) (Or.inl ⟨by rfl, ?_⟩) (by assumption) ?_
  rotate_left
  · (intro wx hSw; go_simp; (try with_reducible rfl))
  (try simp only [Act.put, List.getElem_toArray, List.getElem_cons_zero, List.getElem_cons_succ, List.setIfInBounds_toArray, List.set_cons_zero, List.set_cons_succ])
  refine wpAnyH_take (i := 10) (v := ?_) rfl (by kernel_rfl) (by kernel_rfl) (by kernel_rfl) (fun _ _ _ h => h) (Or.inl ⟨by rfl, ?_⟩) (by assumption) ?_
  rotate_left
  · (intro wx hSw; go_simp; (try with_reducible rfl))
  (try simp only [Act.put, List.getElem_toArray, List.getElem_cons_zero, List.getElem_cons_succ, List.setIfInBounds_toArray, List.set_cons_zero, List.set_cons_succ])
  refine wpAnyH_done (by kernel_rfl) ?_ _
  rw [bitPos _ (by omega) (by omega) _ hok.out.2.2.2.2.2]
  obtain ⟨bw, Hbw⟩ : ∃ bw, Hid (s.dow.testBit ((n + 4) % 7).toNat = bw) := ⟨_, rfl⟩
  rw [Hbw.out]
  have q1 : w2.cell? ⟨sg, 3, none⟩ = some (.int .u64 s.dom) := HN.out.2.1.cell 3
  have q2 : w2.cell? ⟨sg, 5, none⟩ = some (.int .u64 s.dow) := HN.out.2.1.cell 5
  have P1 := starPos s.dom hok.out.2.2.2.1
  have P2 := starPos s.dow hok.out.2.2.2.2.2
  obtain ⟨t1, T1⟩ : ∃ t1, Hid (s.dom.testBit 63 = t1) := ⟨_, rfl⟩
  obtain ⟨t2, T2⟩ : ∃ t2, Hid (s.dow.testBit 63 = t2) := ⟨_, rfl⟩
  rw [T1.out] at P1
  rw [T2.out] at P2
  have HD : Hid (dayB s.dom s.dow (dayOf n).toNat ((n + 4) % 7).toNat = if t1 || t2 then bd && bw else bd || bw) := by show _ = _; unfold dayB; rw [T1.out, T2.out, Hbd.out, Hbw.out]
  cases t1 <;> cases t2 <;> cases bd <;> cases bw
  all_goals
    go_wp2_with fail
    go_ret
    exact ⟨ret_bool (by rw [HD.out]; rfl), HN.out.2.2⟩

end Go.Proofs.YtkhggefbkhdimaaGreatDoor
