/- laws.FnCronDayOfBoth. -/
import Derived.Test.YtpgclepiagfgfaaTzI
import Derived.Test.YtpgclepiagfgfaaTsK
namespace Go.Proofs.Ytpgclepiagfgfaa
open Go.RowKit
set_option linter.unusedVariables false
set_option linter.unusedSimpArgs false

theorem star_or {dom dow : Nat} (h1 : dom < 18446744073709551616) (h2 : dow < 18446744073709551616) : (bits .and .u64 (bits .or .u64 (dom : Int) (dow : Int)) 9223372036854775808 != 0) = (dom.testBit 63 || dow.testBit 63) := by
  rw [u64_or_nat dom dow h1 h2, starNe (dom ||| dow) (Nat.or_lt_two_pow (n := 64) h1 h2), Nat.testBit_or]
theorem starV_lt' (low high : Nat) : starV low high < 18446744073709551616 := Nat.or_lt_two_pow (n := 64) (GB_lt _ _ _) (by decide)
/-- What the three sets allow on day n. -/
theorem both_parts (dom dow : Nat) (n : Int) : ∃ (D Wk V5 V3 : Nat) (bd bw st bo : Bool), 1 ≤ D ∧ D ≤ 31 ∧ Wk ≤ 6 ∧ (dayOf n = (D : Int)) ∧ ((n + 4) % 7 = (Wk : Int)) ∧ V5 < 18446744073709551616 ∧ V3 < 18446744073709551616 ∧ AllIs 5 V5 ∧ AllIs 3 V3 ∧ dom.testBit D = bd ∧ dow.testBit Wk = bw ∧ (dom.testBit 63 || dow.testBit 63) = st ∧
    dayB dom V5 (dayOf n).toNat ((n + 4) % 7).toNat = bd ∧ dayB V3 dow (dayOf n).toNat ((n + 4) % 7).toNat = bw ∧ dayB dom dow (dayOf n).toNat ((n + 4) % 7).toNat = bo ∧ bo = (if st then bd && bw else bd || bw) := by
  have db := day_bd n
  refine ⟨(dayOf n).toNat, ((n + 4) % 7).toNat, starV 0 6, starV 1 31, _, _, _, _, by omega, by omega, by omega, by omega, by omega, starV_lt' _ _, starV_lt' _ _, all_5, all_3, rfl, rfl, rfl, ?_, ?_, rfl, ?_⟩
  · have h1 : (starV 0 6).testBit 63 = true := by rw [starV_bit 0 6 63 (by decide)]; rfl
    have h2 : (starV 0 6).testBit ((n + 4) % 7).toNat = true := by
      rw [starV_bit 0 6 _ (by decide)]
      have : ((n + 4) % 7).toNat ≤ 6 := by omega
      simp [this]
    unfold dayB
    rw [h1, h2]
    simp
  · have h1 : (starV 1 31).testBit 63 = true := by rw [starV_bit 1 31 63 (by decide)]; rfl
    have h2 : (starV 1 31).testBit (dayOf n).toNat = true := by
      rw [starV_bit 1 31 _ (by decide)]
      have a1 : 1 ≤ (dayOf n).toNat := by omega
      have a2 : (dayOf n).toNat ≤ 31 := by omega
      simp [a1, a2]
    unfold dayB
    rw [h1, h2]
    simp
  · unfold dayB
    rfl

set_option maxRecDepth 100000 in
set_option maxHeartbeats 16000000 in
theorem dayOfBoth_law (dom dow : Nat) (hdom : dom < 18446744073709551616) (hdow : dow < 18446744073709551616) (zv : Value) (offs : List Int) (dsts : List Bool) (whens idxs : List Int) (sec ns : Int) (w : World) (hz : Hid (ZoneAt w zv offs dsts whens idxs)) :
    Calls Try.prog 3 #[.int .u64 dom, .int .u64 dow, .agg #[.int .i64 sec, .int .i64 ns], zv] w fun e w' => e = .returned (.bool true) ∧ Below w.heap.size w w' := by
  have HZ0 := hz.out
  obtain ⟨vo, vd, vw, vi, rfl, s1, s2, s3, s4⟩ := HZ0
  obtain ⟨ao, co, rfl⟩ := s1.len
  obtain ⟨ad, cd, rfl⟩ := s2.len
  obtain ⟨aw, cw, rfl⟩ := s3.len
  obtain ⟨ai, ci, rfl⟩ := s4.len
  clear s1 s2 s3 s4
  by_cases hg : goodB sec ns = true
  · have hgb : -62135596800 ≤ sec ∧ sec ≤ 253402300799 ∧ 0 ≤ ns ∧ ns < 1000000000 := by
      unfold goodB at hg
      simpa using hg
    obtain ⟨h0, h1, g0, g1⟩ := hgb
    obtain ⟨m, rfl⟩ : ∃ m : Nat, ns = m := ⟨ns.toNat, by omega⟩
    have hm : m < 1000000000 := by omega
    have h1' : sec ≤ 260000000000 := by omega
    have h1'' : sec ≤ 259000000000 := by omega
    have Hg := Lib.hid hg
    clear hg
    go_enter Try.func3, Try.ntmps3
    go_wp2_with fail
    have HB := Lib.hid (((rws0 w).alloc _ rfl #[.int .i64 sec, .int .i64 m] 24).alloc (w.heap.size + 1) (by simp) #[.slice ao offs.length co, .slice ad dsts.length cd, .slice aw whens.length cw, .slice ai idxs.length ci] 29)
    refine (zzFits1_any (.agg #[.slice ao offs.length co, .slice ad dsts.length cd, .slice aw whens.length cw, .slice ai idxs.length ci]) offs dsts whens idxs _ (Lib.hid (hz.out.below HB.out.2))).mono ?_
    rintro e w1 ⟨b0, rfl, hb⟩
    have HB1 := Lib.hid (HB.out.below hb)
    clear hb HB
    cases b0 with
    | false =>
      go_wp2_with fail
      go_ret
      exact ⟨rfl, HB1.out.2⟩
    | true =>
      have s0 : w1.cell? ⟨w.heap.size, 0, none⟩ = some (.int .i64 sec) := HB1.out.at1.cell 0
      have s1 : w1.cell? ⟨w.heap.size, 1, none⟩ = some (.int .i64 m) := HB1.out.at1.cell 1
      have z0 : w1.cell? ⟨w.heap.size + 1, 0, none⟩ = some (.slice ao offs.length co) := HB1.out.at0.cell 0
      have z1 : w1.cell? ⟨w.heap.size + 1, 1, none⟩ = some (.slice ad dsts.length cd) := HB1.out.at0.cell 1
      have z2 : w1.cell? ⟨w.heap.size + 1, 2, none⟩ = some (.slice aw whens.length cw) := HB1.out.at0.cell 2
      have z3 : w1.cell? ⟨w.heap.size + 1, 3, none⟩ = some (.slice ai idxs.length ci) := HB1.out.at0.cell 3
      go_wp2_with fail
      refine (good_any sec m _).mono ?_
      rintro e w2 ⟨rfl, hb⟩
      rw [Hg.out]
      have HB2 := Lib.hid (HB1.out.below hb)
      clear s0 s1 z0 z1 z2 z3
      clear hb HB1
      have s0 : w2.cell? ⟨w.heap.size, 0, none⟩ = some (.int .i64 sec) := HB2.out.at1.cell 0
      have s1 : w2.cell? ⟨w.heap.size, 1, none⟩ = some (.int .i64 m) := HB2.out.at1.cell 1
      have z0 : w2.cell? ⟨w.heap.size + 1, 0, none⟩ = some (.slice ao offs.length co) := HB2.out.at0.cell 0
      have z1 : w2.cell? ⟨w.heap.size + 1, 1, none⟩ = some (.slice ad dsts.length cd) := HB2.out.at0.cell 1
      have z2 : w2.cell? ⟨w.heap.size + 1, 2, none⟩ = some (.slice aw whens.length cw) := HB2.out.at0.cell 2
      have z3 : w2.cell? ⟨w.heap.size + 1, 3, none⟩ = some (.slice ai idxs.length ci) := HB2.out.at0.cell 3
      go_wp2_with fail
      refine (goodZone_any (.agg #[.slice ao offs.length co, .slice ad dsts.length cd, .slice aw whens.length cw, .slice ai idxs.length ci]) offs dsts whens idxs _ (Lib.hid (hz.out.below HB2.out.2))).mono ?_
      rintro e w3 ⟨b1, rfl, hok0, hb⟩
      have HB3 := Lib.hid (HB2.out.below hb)
      clear s0 s1 z0 z1 z2 z3
      clear hb HB2
      cases b1 with
      | false =>
        go_wp2_with fail
        go_ret
        exact ⟨rfl, HB3.out.2⟩
      | true =>
        have hok := Lib.hid (hok0 rfl)
        clear hok0
        obtain ⟨off, ho0⟩ := hok.out.exi (sec := sec) (by omega)
        have ho := Lib.hid ho0
        clear ho0
        have hob := hok.out.off ho.out
        obtain ⟨n, Hn⟩ : ∃ n, Hid (dayN (sec + 62135596800 + off) = n) := ⟨_, Lib.hid rfl⟩
        have hpp := both_parts dom dow n
        obtain ⟨D, Wk, V5, V3, bd, bw, st, bo, d1, d2, d3, d4, d5, hV5, hV3, hA5, hA3, hbd, hbw, hst, hda, hdb, hdc, hbo⟩ := hpp
        have hC : ∃ c0 c1 c3 c4 c5 : Int, civV (sec + off) m = #[.int .i64 c0, .int .i64 c1, .int .i64 (D : Nat), .int .i64 c3, .int .i64 c4, .int .i64 c5, .int .i64 m, .int .i64 (Wk : Nat)] := by
          have hn : (sec + off) / 86400 = n := by have := Hn.out; unfold dayN at this; omega
          unfold civV
          rw [hn, d4, d5]
          exact ⟨_, _, _, _, _, rfl⟩
        obtain ⟨c0, c1, c3, c4, c5, hC1⟩ := hC
        have HC := Lib.hid hC1
        have HA5 := Lib.hid hA5
        have HA3 := Lib.hid hA3
        have HDA := Lib.hid hda
        have HDB := Lib.hid hdb
        have HDC := Lib.hid hdc
        have Hbo := Lib.hid hbo
        have Hbd := Lib.hid hbd
        have Hbw := Lib.hid hbw
        have Hst := Lib.hid hst
        unfold AllIs at HA5 HA3
        clear hA5 hA3 hda hdb hdc hbo hbd hbw hst d4 d5 hC1
        go_wp2_with fail
        have HDr := Lib.hid HB3.out.drew
        clear HB3
        refine wp_region_held_drew (S := fun w' => Hid (Rws w w' [(w.heap.size + 1, 29, #[.slice ao offs.length co, .slice ad dsts.length cd, .slice aw whens.length cw, .slice ai idxs.length ci]), (w.heap.size, 24, #[.int .i64 sec, .int .i64 m])])) (by kernel_rfl) (Lib.hid HDr.out) (fun hHeld => ?_)
        generalize w3.drew = Wd at HDr hHeld ⊢
        (try simp only [Act.put, List.getElem_toArray, List.getElem_cons_zero, List.getElem_cons_succ, List.setIfInBounds_toArray, List.set_cons_zero, List.set_cons_succ])
        refine wpAnyH_take (i := 0) (v := ?_) rfl (by kernel_rfl) (by kernel_rfl) (by kernel_rfl) (fun _ _ _ h => h) (Or.inl ⟨by rfl, ?_⟩) (by assumption) ?_
        rotate_left
        · (intro wx hSw; go_simp; (try with_reducible rfl))
        (try simp only [Act.put, List.getElem_toArray, List.getElem_cons_zero, List.getElem_cons_succ, List.setIfInBounds_toArray, List.set_cons_zero, List.set_cons_succ])
        refine wpAnyH_take (i := 2) (v := ?_) rfl (by kernel_rfl) (by kernel_rfl) (by kernel_rfl) (fun _ _ _ h => h) (Or.inl ⟨by rfl, ?_⟩) (by assumption) ?_
        rotate_left
        · (intro wx hSw; have k0 : wx.cell? ⟨w.heap.size, 0, none⟩ = some (.int .i64 sec) := hSw.out.at1.cell 0; have k1 : wx.cell? ⟨w.heap.size, 1, none⟩ = some (.int .i64 m) := hSw.out.at1.cell 1; go_simp; (try with_reducible rfl))
        (try simp only [Act.put, List.getElem_toArray, List.getElem_cons_zero, List.getElem_cons_succ, List.setIfInBounds_toArray, List.set_cons_zero, List.set_cons_succ])
        refine wpAnyH_take (i := 3) (v := ?_) rfl (by kernel_rfl) (by kernel_rfl) (by kernel_rfl) (fun _ _ _ h => h) (Or.inl ⟨by rfl, ?_⟩) (by assumption) ?_
        rotate_left
        · (intro wx hSw; have k0 : wx.cell? ⟨w.heap.size + 1, 0, none⟩ = some (.slice ao offs.length co) := hSw.out.at0.cell 0; have k1 : wx.cell? ⟨w.heap.size + 1, 1, none⟩ = some (.slice ad dsts.length cd) := hSw.out.at0.cell 1; have k2 : wx.cell? ⟨w.heap.size + 1, 2, none⟩ = some (.slice aw whens.length cw) := hSw.out.at0.cell 2; have k3 : wx.cell? ⟨w.heap.size + 1, 3, none⟩ = some (.slice ai idxs.length ci) := hSw.out.at0.cell 3; go_simp; (try with_reducible rfl))
        (try simp only [Act.put, List.getElem_toArray, List.getElem_cons_zero, List.getElem_cons_succ, List.setIfInBounds_toArray, List.set_cons_zero, List.set_cons_succ])
        refine wpAnyH_ready (rs := [1]) (by kernel_rfl) (by simp) ?_
        refine (AllReadyH.cons rfl (fun K hK => ?_) AllReadyH.nil)
        go_simp
        go_at_call 14
        refine (HA5.out _).mono ?_
        rintro e x4 ⟨rfl, hb⟩
        have HDs := Lib.hid (HDr.out.below hb)
        have HN := Lib.hid HDs.out
        clear hb HDr
        refine hK.out _ _ HN (fun hH2 => ?_)
        clear hK K hHeld 
        have hHeld := hH2
        clear hH2
        (try simp only [Act.put, List.getElem_toArray, List.getElem_cons_zero, List.getElem_cons_succ, List.setIfInBounds_toArray, List.set_cons_zero, List.set_cons_succ])
        refine wpAnyH_ready (rs := [4]) (by kernel_rfl) (by simp) ?_
        refine (AllReadyH.cons rfl (fun K hK => ?_) AllReadyH.nil)
        go_simp
        go_at_call 13
        refine (cronDayZ_any dom V5 hdom hV5 (.agg #[.slice ao offs.length co, .slice ad dsts.length cd, .slice aw whens.length cw, .slice ai idxs.length ci]) offs dsts whens idxs hok sec off m hm h0 h1' ho n Hn _ (Lib.hid (hz.out.below HDs.out.2))).mono ?_
        rintro e y4 ⟨rfl, hb⟩
        rw [HDA.out]
        have HB4 := Lib.hid (HDs.out.below hb)
        have HN := Lib.hid HB4.out
        clear hb HDs
        refine hK.out _ _ HN (fun hH2 => ?_)
        clear hK K hHeld 
        have hHeld := hH2
        clear hH2
        (try simp only [Act.put, List.getElem_toArray, List.getElem_cons_zero, List.getElem_cons_succ, List.setIfInBounds_toArray, List.set_cons_zero, List.set_cons_succ])
        refine wpAnyH_take (i := 5) (v := ?_) rfl (by kernel_rfl) (by kernel_rfl) (by kernel_rfl) (fun _ _ _ h => h) (Or.inl ⟨by rfl, ?_⟩) (by assumption) ?_
        rotate_left
        · (intro wx hSw; go_simp; (try with_reducible rfl))
        (try simp only [Act.put, List.getElem_toArray, List.getElem_cons_zero, List.getElem_cons_succ, List.setIfInBounds_toArray, List.set_cons_zero, List.set_cons_succ])
        refine wpAnyH_done (by kernel_rfl) ?_ _
        clear hHeld
        go_wp2_with fail
        have HDr := Lib.hid HB4.out.drew
        clear HB4
        refine wp_region_held_drew (S := fun w' => Hid (Rws w w' [(w.heap.size + 1, 29, #[.slice ao offs.length co, .slice ad dsts.length cd, .slice aw whens.length cw, .slice ai idxs.length ci]), (w.heap.size, 24, #[.int .i64 sec, .int .i64 m])])) (by kernel_rfl) (Lib.hid HDr.out) (fun hHeld => ?_)
        generalize y4.drew = Wd at HDr hHeld ⊢
        (try simp only [Act.put, List.getElem_toArray, List.getElem_cons_zero, List.getElem_cons_succ, List.setIfInBounds_toArray, List.set_cons_zero, List.set_cons_succ])
        refine wpAnyH_take (i := 1) (v := ?_) rfl (by kernel_rfl) (by kernel_rfl) (by kernel_rfl) (fun _ _ _ h => h) (Or.inl ⟨by rfl, ?_⟩) (by assumption) ?_
        rotate_left
        · (intro wx hSw; go_simp; (try with_reducible rfl))
        (try simp only [Act.put, List.getElem_toArray, List.getElem_cons_zero, List.getElem_cons_succ, List.setIfInBounds_toArray, List.set_cons_zero, List.set_cons_succ])
        refine wpAnyH_take (i := 2) (v := ?_) rfl (by kernel_rfl) (by kernel_rfl) (by kernel_rfl) (fun _ _ _ h => h) (Or.inl ⟨by rfl, ?_⟩) (by assumption) ?_
        rotate_left
        · (intro wx hSw; have k0 : wx.cell? ⟨w.heap.size, 0, none⟩ = some (.int .i64 sec) := hSw.out.at1.cell 0; have k1 : wx.cell? ⟨w.heap.size, 1, none⟩ = some (.int .i64 m) := hSw.out.at1.cell 1; go_simp; (try with_reducible rfl))
        (try simp only [Act.put, List.getElem_toArray, List.getElem_cons_zero, List.getElem_cons_succ, List.setIfInBounds_toArray, List.set_cons_zero, List.set_cons_succ])
        refine wpAnyH_take (i := 3) (v := ?_) rfl (by kernel_rfl) (by kernel_rfl) (by kernel_rfl) (fun _ _ _ h => h) (Or.inl ⟨by rfl, ?_⟩) (by assumption) ?_
        rotate_left
        · (intro wx hSw; have k0 : wx.cell? ⟨w.heap.size + 1, 0, none⟩ = some (.slice ao offs.length co) := hSw.out.at0.cell 0; have k1 : wx.cell? ⟨w.heap.size + 1, 1, none⟩ = some (.slice ad dsts.length cd) := hSw.out.at0.cell 1; have k2 : wx.cell? ⟨w.heap.size + 1, 2, none⟩ = some (.slice aw whens.length cw) := hSw.out.at0.cell 2; have k3 : wx.cell? ⟨w.heap.size + 1, 3, none⟩ = some (.slice ai idxs.length ci) := hSw.out.at0.cell 3; go_simp; (try with_reducible rfl))
        (try simp only [Act.put, List.getElem_toArray, List.getElem_cons_zero, List.getElem_cons_succ, List.setIfInBounds_toArray, List.set_cons_zero, List.set_cons_succ])
        refine wpAnyH_ready (rs := [0]) (by kernel_rfl) (by simp) ?_
        refine (AllReadyH.cons rfl (fun K hK => ?_) AllReadyH.nil)
        go_simp
        go_at_call 14
        refine (HA3.out _).mono ?_
        rintro e x5 ⟨rfl, hb⟩
        have HDs := Lib.hid (HDr.out.below hb)
        have HN := Lib.hid HDs.out
        clear hb HDr
        refine hK.out _ _ HN (fun hH2 => ?_)
        clear hK K hHeld 
        have hHeld := hH2
        clear hH2
        (try simp only [Act.put, List.getElem_toArray, List.getElem_cons_zero, List.getElem_cons_succ, List.setIfInBounds_toArray, List.set_cons_zero, List.set_cons_succ])
        refine wpAnyH_ready (rs := [4]) (by kernel_rfl) (by simp) ?_
        refine (AllReadyH.cons rfl (fun K hK => ?_) AllReadyH.nil)
        go_simp
        go_at_call 13
        refine (cronDayZ_any V3 dow hV3 hdow (.agg #[.slice ao offs.length co, .slice ad dsts.length cd, .slice aw whens.length cw, .slice ai idxs.length ci]) offs dsts whens idxs hok sec off m hm h0 h1' ho n Hn _ (Lib.hid (hz.out.below HDs.out.2))).mono ?_
        rintro e y5 ⟨rfl, hb⟩
        rw [HDB.out]
        have HB5 := Lib.hid (HDs.out.below hb)
        have HN := Lib.hid HB5.out
        clear hb HDs
        refine hK.out _ _ HN (fun hH2 => ?_)
        clear hK K hHeld 
        have hHeld := hH2
        clear hH2
        (try simp only [Act.put, List.getElem_toArray, List.getElem_cons_zero, List.getElem_cons_succ, List.setIfInBounds_toArray, List.set_cons_zero, List.set_cons_succ])
        refine wpAnyH_take (i := 5) (v := ?_) rfl (by kernel_rfl) (by kernel_rfl) (by kernel_rfl) (fun _ _ _ h => h) (Or.inl ⟨by rfl, ?_⟩) (by assumption) ?_
        rotate_left
        · (intro wx hSw; go_simp; (try with_reducible rfl))
        (try simp only [Act.put, List.getElem_toArray, List.getElem_cons_zero, List.getElem_cons_succ, List.setIfInBounds_toArray, List.set_cons_zero, List.set_cons_succ])
        refine wpAnyH_done (by kernel_rfl) ?_ _
        clear hHeld
        have s0 : y5.cell? ⟨w.heap.size, 0, none⟩ = some (.int .i64 sec) := HB5.out.at1.cell 0
        have s1 : y5.cell? ⟨w.heap.size, 1, none⟩ = some (.int .i64 m) := HB5.out.at1.cell 1
        have z0 : y5.cell? ⟨w.heap.size + 1, 0, none⟩ = some (.slice ao offs.length co) := HB5.out.at0.cell 0
        have z1 : y5.cell? ⟨w.heap.size + 1, 1, none⟩ = some (.slice ad dsts.length cd) := HB5.out.at0.cell 1
        have z2 : y5.cell? ⟨w.heap.size + 1, 2, none⟩ = some (.slice aw whens.length cw) := HB5.out.at0.cell 2
        have z3 : y5.cell? ⟨w.heap.size + 1, 3, none⟩ = some (.slice ai idxs.length ci) := HB5.out.at0.cell 3
        go_wp2_with fail
        refine (cronDayZ_any dom dow hdom hdow (.agg #[.slice ao offs.length co, .slice ad dsts.length cd, .slice aw whens.length cw, .slice ai idxs.length ci]) offs dsts whens idxs hok sec off m hm h0 h1' ho n Hn _ (Lib.hid (hz.out.below HB5.out.2))).mono ?_
        rintro e w6 ⟨rfl, hb⟩
        rw [HDC.out]
        have HB6 := Lib.hid (HB5.out.below hb)
        clear s0 s1 z0 z1 z2 z3
        clear hb HB5
        have s0 : w6.cell? ⟨w.heap.size, 0, none⟩ = some (.int .i64 sec) := HB6.out.at1.cell 0
        have s1 : w6.cell? ⟨w.heap.size, 1, none⟩ = some (.int .i64 m) := HB6.out.at1.cell 1
        have z0 : w6.cell? ⟨w.heap.size + 1, 0, none⟩ = some (.slice ao offs.length co) := HB6.out.at0.cell 0
        have z1 : w6.cell? ⟨w.heap.size + 1, 1, none⟩ = some (.slice ad dsts.length cd) := HB6.out.at0.cell 1
        have z2 : w6.cell? ⟨w.heap.size + 1, 2, none⟩ = some (.slice aw whens.length cw) := HB6.out.at0.cell 2
        have z3 : w6.cell? ⟨w.heap.size + 1, 3, none⟩ = some (.slice ai idxs.length ci) := HB6.out.at0.cell 3
        go_wp2_with fail
        refine (cronCivilZ_any (.agg #[.slice ao offs.length co, .slice ad dsts.length cd, .slice aw whens.length cw, .slice ai idxs.length ci]) offs dsts whens idxs hok sec off m hm h0 h1'' ho _ (Lib.hid (hz.out.below HB6.out.2))).mono ?_
        rintro e w7 ⟨rfl, hb⟩
        rw [HC.out]
        have HB7 := Lib.hid (HB6.out.below hb)
        clear s0 s1 z0 z1 z2 z3
        clear hb HB6
        have hv1 := shrBit dom D hdom
        rw [Hbd.out] at hv1
        have hv2 := shrBit dow Wk hdow
        rw [Hbw.out] at hv2
        have hv3 := star_or hdom hdow
        rw [Hst.out] at hv3
        have hbo := Hbo.out
        clear HA5 HA3 HDA HDB HDC HC Hbo Hbd Hbw Hst
        have hB := HB7.out.2
        cases st <;> cases bd <;> cases bw <;> simp at hbo <;> subst hbo
        all_goals
          go_wp2_with fail
          go_ret
          exact ⟨rfl, hB.alloc hB.size _⟩
  · have hgf : goodB sec ns = false := by simpa using hg
    have Hg := Lib.hid hgf
    clear hg hgf
    go_enter Try.func3, Try.ntmps3
    go_wp2_with fail
    have HB := Lib.hid (((rws0 w).alloc _ rfl #[.int .i64 sec, .int .i64 ns] 24).alloc (w.heap.size + 1) (by simp) #[.slice ao offs.length co, .slice ad dsts.length cd, .slice aw whens.length cw, .slice ai idxs.length ci] 29)
    refine (zzFits1_any (.agg #[.slice ao offs.length co, .slice ad dsts.length cd, .slice aw whens.length cw, .slice ai idxs.length ci]) offs dsts whens idxs _ (Lib.hid (hz.out.below HB.out.2))).mono ?_
    rintro e w1 ⟨b0, rfl, hb⟩
    have HB1 := Lib.hid (HB.out.below hb)
    clear hb HB
    cases b0 with
    | false =>
      go_wp2_with fail
      go_ret
      exact ⟨rfl, HB1.out.2⟩
    | true =>
      have s0 : w1.cell? ⟨w.heap.size, 0, none⟩ = some (.int .i64 sec) := HB1.out.at1.cell 0
      have s1 : w1.cell? ⟨w.heap.size, 1, none⟩ = some (.int .i64 ns) := HB1.out.at1.cell 1
      have z0 : w1.cell? ⟨w.heap.size + 1, 0, none⟩ = some (.slice ao offs.length co) := HB1.out.at0.cell 0
      have z1 : w1.cell? ⟨w.heap.size + 1, 1, none⟩ = some (.slice ad dsts.length cd) := HB1.out.at0.cell 1
      have z2 : w1.cell? ⟨w.heap.size + 1, 2, none⟩ = some (.slice aw whens.length cw) := HB1.out.at0.cell 2
      have z3 : w1.cell? ⟨w.heap.size + 1, 3, none⟩ = some (.slice ai idxs.length ci) := HB1.out.at0.cell 3
      go_wp2_with fail
      refine (good_any sec ns _).mono ?_
      rintro e w2 ⟨rfl, hb⟩
      rw [Hg.out]
      have HB2 := Lib.hid (HB1.out.below hb)
      clear s0 s1 z0 z1 z2 z3
      clear hb HB1
      go_wp2_with fail
      go_ret
      exact ⟨rfl, HB2.out.2⟩

end Go.Proofs.Ytpgclepiagfgfaa
