/- laws.FnCronWeeklyAt. -/
import Derived.Test.YtkhggefbkhdimaaGreatDoorGWa
import Derived.Test.YtkhggefbkhdimaaGreatDoorGFf
import Derived.Test.YtkhggefbkhdimaaGreatDoorShelf
namespace Go.Proofs.YtkhggefbkhdimaaGreatDoor
open Go.RowKit Go.Shelf
set_option linter.unusedVariables false
set_option linter.unusedSimpArgs false

theorem wk_len_all : (List.range 60).all (fun u => decide ((Lib.decDigits u).length ≤ 2)) = true := by decide +kernel
theorem wk_len (u : Nat) (h : u < 60) : (Lib.decDigits u).length ≤ 2 := of_decide_eq_true ((List.all_eq_true.1 wk_len_all) u (List.mem_range.2 h))
theorem week_head (m h d : Nat) : ∃ c r, weekT m h d = c :: r ∧ 48 ≤ c.toNat ∧ c.toNat ≤ 57 := by
  cases e : Lib.decDigits m with
  | nil => exact absurd e (dec_ne m)
  | cons c r =>
    refine ⟨c, r ++ [32] ++ Lib.decDigits h ++ [32, 42, 32, 42, 32] ++ Lib.decDigits d, by unfold weekT; rw [e]; simp, dec_digits m c (by rw [e]; simp)⟩
theorem week_ascii (m h d : Nat) : plainB (weekT m h d) = true := by
  have hd : ∀ u, ∀ c ∈ Lib.decDigits u, decide (c.toNat < 128) = true := fun u c hc => decide_eq_true (by have := dec_digits u c hc; omega)
  unfold plainB weekT
  simp only [List.all_append, Bool.and_eq_true]
  exact ⟨⟨⟨⟨List.all_eq_true.2 (hd m), by decide⟩, List.all_eq_true.2 (hd h)⟩, by decide⟩, List.all_eq_true.2 (hd d)⟩
theorem no_prefix (l : List UInt8) (c p : UInt8) (r ps : List UInt8) (h : l = c :: r) (hne : p ≠ c) : Lib.hasPrefix l (p :: ps) = false := by
  subst h
  unfold Lib.hasPrefix
  simp [List.isPrefixOf, hne]
theorem week_parse (m h d : Nat) (hm : m < 60) (hh : h < 24) (hd : d < 7) (t : ByteArray) (ht : t.data.toList = weekT m h d) (s : Sched) (hs : s = weekS m h d) (w : World) (he : Hid (Errs w)) :
    Calls Tryz.prog 7 #[.string t] w fun e w' => e = .returned (.tuple #[.agg #[.bool false, .int .i64 0, .int .u64 s.se, .int .u64 s.mi, .int .u64 s.ho, .int .u64 s.dom, .int .u64 s.mo, .int .u64 s.dow], .bool true]) ∧ Below w.heap.size w w' := by
  have l1 := wk_len m hm
  have l2 := wk_len h (by omega)
  have l3 := wk_len d (by omega)
  have hsz : t.size = (weekT m h d).length := by rw [← ht, str_len]
  have hle : t.size ≤ 12 := by rw [hsz]; unfold weekT; simp only [List.length_append, List.length_cons, List.length_nil]; omega
  have hge : t.size ≠ 0 := by rw [hsz]; unfold weekT; simp only [List.length_append, List.length_cons, List.length_nil]; omega
  obtain ⟨c, r, hc, c1, c2⟩ := week_head m h d
  have hne : ∀ p : UInt8, p.toNat ≥ 58 → p ≠ c := fun p hp e => by subst e; omega
  have hw : wordsB t = [mkB (Lib.decDigits m), mkB (Lib.decDigits h), mkB [42], mkB [42], mkB (Lib.decDigits d)] := by unfold wordsB; rw [ht, week_words]; rfl
  refine (implStd_any t (stdF (Lib.decDigits m) (Lib.decDigits h) [42] [42] (Lib.decDigits d)) (fun W hE => parse_fields 380 t (by omega) hge (Lib.hid (by rw [ht]; exact week_ascii m h d)) (no_prefix _ c 84 r _ (by rw [ht, hc]) (hne _ (by decide))) (no_prefix _ c 67 r _ (by rw [ht, hc]) (hne _ (by decide))) (no_prefix _ c 64 r _ (by rw [ht, hc]) (hne _ (by decide))) _ (Lib.hid (by rw [hw]; exact norm_std _ _ _ _ _)) (fun i => ?_) W hE) w he).mono ?_
  · unfold stdF
    split <;> first | decide | omega
  · rintro e w' ⟨rfl, hb⟩
    refine ⟨?_, hb⟩
    have f0 : fieldJ 0 (stdF (Lib.decDigits m) (Lib.decDigits h) [42] [42] (Lib.decDigits d) 0) = some 1 := field0
    have f1 : fieldJ 1 (stdF (Lib.decDigits m) (Lib.decDigits h) [42] [42] (Lib.decDigits d) 1) = some (2 ^ m) := field1 m hm
    have f2 : fieldJ 2 (stdF (Lib.decDigits m) (Lib.decDigits h) [42] [42] (Lib.decDigits d) 2) = some (2 ^ h) := field2 h hh
    have f3 : fieldJ 3 (stdF (Lib.decDigits m) (Lib.decDigits h) [42] [42] (Lib.decDigits d) 3) = some 9223372041149743102 := field3
    have f4 : fieldJ 4 (stdF (Lib.decDigits m) (Lib.decDigits h) [42] [42] (Lib.decDigits d) 4) = some 9223372036854783998 := field4
    have f5 : fieldJ 5 (stdF (Lib.decDigits m) (Lib.decDigits h) [42] [42] (Lib.decDigits d) 5) = some (2 ^ d) := field5 d hd
    subst hs
    have ha : all6 (fun i => fieldJ i (stdF (Lib.decDigits m) (Lib.decDigits h) [42] [42] (Lib.decDigits d) i)) = true := by
      unfold all6
      dsimp only
      rw [f0, f1, f2, f3, f4, f5]
      rfl
    rw [ha, if_pos rfl]
    dsimp only
    rw [f0, f1, f2, f3, f4, f5]
    rfl
set_option maxRecDepth 100000 in
set_option maxHeartbeats 8000000 in
theorem weekly_law (m h d sec ns : Int) (w : World) (he : Hid (Errs w)) :
    Calls Tryz.prog 5 #[.int .i64 m, .int .i64 h, .int .i64 d, .agg #[.int .i64 sec, .int .i64 ns]] w fun e w' => e = .returned (.bool true) ∧ Below w.heap.size w w' := by
  by_cases c0 : m < 0
  · go_enter Tryz.func5, Tryz.ntmps5
    go_wp2_with fail
    go_ret
    exact ⟨rfl, (by repeat (first | (with_reducible assumption) | (with_reducible exact Below.refl _ _) | (with_reducible refine below_drewN ?_ _) | (with_reducible refine Below.drew ?_) | (with_reducible refine Below.alloc ?_ (by first | omega | (simp <;> omega)) _)))⟩
  · have d0 : 0 ≤ m := by omega
    clear c0
    by_cases c1 : 59 < m
    · go_enter Tryz.func5, Tryz.ntmps5
      go_wp2_with fail
      go_ret
      exact ⟨rfl, (by repeat (first | (with_reducible assumption) | (with_reducible exact Below.refl _ _) | (with_reducible refine below_drewN ?_ _) | (with_reducible refine Below.drew ?_) | (with_reducible refine Below.alloc ?_ (by first | omega | (simp <;> omega)) _)))⟩
    · have d1 : m ≤ 59 := by omega
      clear c1
      by_cases c2 : h < 0
      · go_enter Tryz.func5, Tryz.ntmps5
        go_wp2_with fail
        go_ret
        exact ⟨rfl, (by repeat (first | (with_reducible assumption) | (with_reducible exact Below.refl _ _) | (with_reducible refine below_drewN ?_ _) | (with_reducible refine Below.drew ?_) | (with_reducible refine Below.alloc ?_ (by first | omega | (simp <;> omega)) _)))⟩
      · have d2 : 0 ≤ h := by omega
        clear c2
        by_cases c3 : 23 < h
        · go_enter Tryz.func5, Tryz.ntmps5
          go_wp2_with fail
          go_ret
          exact ⟨rfl, (by repeat (first | (with_reducible assumption) | (with_reducible exact Below.refl _ _) | (with_reducible refine below_drewN ?_ _) | (with_reducible refine Below.drew ?_) | (with_reducible refine Below.alloc ?_ (by first | omega | (simp <;> omega)) _)))⟩
        · have d3 : h ≤ 23 := by omega
          clear c3
          by_cases c4 : d < 0
          · go_enter Tryz.func5, Tryz.ntmps5
            go_wp2_with fail
            go_ret
            exact ⟨rfl, (by repeat (first | (with_reducible assumption) | (with_reducible exact Below.refl _ _) | (with_reducible refine below_drewN ?_ _) | (with_reducible refine Below.drew ?_) | (with_reducible refine Below.alloc ?_ (by first | omega | (simp <;> omega)) _)))⟩
          · have d4 : 0 ≤ d := by omega
            clear c4
            by_cases c5 : 6 < d
            · go_enter Tryz.func5, Tryz.ntmps5
              go_wp2_with fail
              go_ret
              exact ⟨rfl, (by repeat (first | (with_reducible assumption) | (with_reducible exact Below.refl _ _) | (with_reducible refine below_drewN ?_ _) | (with_reducible refine Below.drew ?_) | (with_reducible refine Below.alloc ?_ (by first | omega | (simp <;> omega)) _)))⟩
            · have d5 : d ≤ 6 := by omega
              clear c5
              obtain ⟨g1, hg1⟩ : ∃ g1, goodB sec ns = g1 := ⟨_, rfl⟩
              have Hg1 := Lib.hid hg1
              clear hg1
              have HR0 := Lib.hid ((rws0 w).alloc _ rfl #[.int .i64 sec, .int .i64 ns] 48)
              go_enter Tryz.func5, Tryz.ntmps5
              go_wp2_with fail
              refine (good_any sec ns _).mono ?_
              rintro e w1 ⟨rfl, hb⟩
              rw [Hg1.out]
              have HR1 := Lib.hid (HR0.out.below hb)
              clear hb HR0
              cases g1 with
              | false =>
                go_wp2_with fail
                go_ret
                exact ⟨rfl, HR1.out.2⟩
              | true =>
                have hgp := good_parts (ev := false) (sec := sec) (ns := ns) (by rw [Hg1.out]; rfl)
                obtain ⟨-, h0, h1, hn0, hn1⟩ := hgp
                obtain ⟨ns, rfl⟩ : ∃ n : Nat, ns = n := ⟨ns.toNat, by omega⟩
                have hn : ns < 1000000000 := by omega
                obtain ⟨m, rfl⟩ : ∃ n : Nat, m = n := ⟨m.toNat, by omega⟩
                obtain ⟨h, rfl⟩ : ∃ n : Nat, h = n := ⟨h.toNat, by omega⟩
                obtain ⟨d, rfl⟩ : ∃ n : Nat, d = n := ⟨d.toNat, by omega⟩
                clear hn0 hn1 Hg1
                obtain ⟨s, hs⟩ : ∃ s, s = weekS m h d := ⟨_, rfl⟩
                obtain ⟨x, hx⟩ : ∃ x, comeW sec m h d = x := ⟨_, rfl⟩
                have HNX : Hid (∀ W : World, Calls Tryz.prog 20 #[.agg #[.bool false, .int .i64 0, .int .u64 s.se, .int .u64 s.mi, .int .u64 s.ho, .int .u64 s.dom, .int .u64 s.mo, .int .u64 s.dow], .agg #[.int .i64 sec, .int .i64 ns], .agg #[.slice none 0 0, .slice none 0 0, .slice none 0 0, .slice none 0 0]] W fun e w' => e = .returned (.tuple #[.agg #[.int .i64 x, .int .i64 0], .bool true]) ∧ Below W.heap.size W w') := Lib.hid (fun W => by
                  have := weekNext_any m h d (by omega) (by omega) (by omega) 0 sec ns hn h0 h1 W
                  rw [← hs, hx] at this
                  exact this)
                have HCM : Hid (∀ W : World, Calls Tryz.prog 23 #[.int .i64 sec, .int .i64 604800, .int .i64 (restW m h d)] W fun e w' => e = .returned (.int .i64 x) ∧ W = w') := Lib.hid (fun W => by
                  have := comingW sec (restW m h d) (by omega) (by omega) (by unfold restW; omega) (by unfold restW; omega) W
                  rw [show sec + 1 + (restW m h d - sec - 1) % 604800 = x from hx] at this
                  exact this)
                obtain ⟨A, hA⟩ : ∃ A : ByteArray, A = ⟨(Lib.decDigits m).toArray⟩ := ⟨_, rfl⟩
                have lA : A.size ≤ 2 := by rw [hA]; exact wk_len m (by omega)
                have HA : Hid (A.data.toList = Lib.decDigits m) := Lib.hid (by rw [hA])
                have IA : Hid (∀ W : World, Calls Tryz.prog 19 #[.int .i64 m] W fun e w' => e = .returned (.string A) ∧ w' = W) := Lib.hid (fun W => by rw [hA]; exact Tryz.strconv_Itoa_small m (by omega) W)
                clear hA
                obtain ⟨B, hB⟩ : ∃ B : ByteArray, B = ⟨(Lib.decDigits h).toArray⟩ := ⟨_, rfl⟩
                have lB : B.size ≤ 2 := by rw [hB]; exact wk_len h (by omega)
                have HB : Hid (B.data.toList = Lib.decDigits h) := Lib.hid (by rw [hB])
                have IB : Hid (∀ W : World, Calls Tryz.prog 19 #[.int .i64 h] W fun e w' => e = .returned (.string B) ∧ w' = W) := Lib.hid (fun W => by rw [hB]; exact Tryz.strconv_Itoa_small h (by omega) W)
                clear hB
                obtain ⟨C, hC⟩ : ∃ C : ByteArray, C = ⟨(Lib.decDigits d).toArray⟩ := ⟨_, rfl⟩
                have lC : C.size ≤ 2 := by rw [hC]; exact wk_len d (by omega)
                have HC : Hid (C.data.toList = Lib.decDigits d) := Lib.hid (by rw [hC])
                have IC : Hid (∀ W : World, Calls Tryz.prog 19 #[.int .i64 d] W fun e w' => e = .returned (.string C) ∧ w' = W) := Lib.hid (fun W => by rw [hC]; exact Tryz.strconv_Itoa_small d (by omega) W)
                clear hC
                obtain ⟨V, hV⟩ : ∃ V : Array Value, V = #[.bool false, .int .i64 0, .int .u64 s.se, .int .u64 s.mi, .int .u64 s.ho, .int .u64 s.dom, .int .u64 s.mo, .int .u64 s.dow] := ⟨_, rfl⟩
                have hVs : V.size = 8 := by rw [hV]; rfl
                have hVo : V.all (·.oneCell') = true := by rw [hV]; exact sch_one _ _ _ _ _ _ _ _
                have hVi : (Tryz.prog.info? 24).map (·.size) = some V.size := by rw [hVs]; exact infoSch
                have HV := Lib.hid hV
                clear hV
                have HPS : Hid (∀ (t : ByteArray), t.data.toList = weekT m h d → ∀ W : World, Hid (Errs W) → Calls Tryz.prog 7 #[.string t] W fun e w' => e = .returned (.tuple #[.agg V, .bool true]) ∧ Below W.heap.size W w') := Lib.hid (fun t ht W hE => by rw [HV.out]; exact week_parse m h d (by omega) (by omega) (by omega) t ht s hs W hE)
                have HRW : Hid (restW m h d = 86400 * (((d : Int) + 3) % 7) + 3600 * h + 60 * m) := Lib.hid rfl
                clear hs hx
                go_wp2_with fail
                refine (IA.out _).mono ?_
                rintro e w2 ⟨rfl, rfl⟩
                go_wp2_with fail
                refine (IB.out _).mono ?_
                rintro e w2 ⟨rfl, rfl⟩
                go_wp2_with fail
                refine (IC.out _).mono ?_
                rintro e w2 ⟨rfl, rfl⟩
                go_wp2_with fail
                refine (HPS.out _ ?_ _ (Lib.hid (he.out.below HR1.out.2))).mono ?_
                · simp only [ByteArray.data_append, Array.toList_append, HA.out, HB.out, HC.out]; rfl
                rintro e w2 ⟨rfl, hb⟩
                have HR2 := Lib.hid (HR1.out.below hb)
                clear hb HR1
                have HA := Lib.hid (HR2.out.alloc _ rfl #[.bool false, .int .i64 0, .int .u64 0, .int .u64 0, .int .u64 0, .int .u64 0, .int .u64 0, .int .u64 0] 24)
                have hVt : (w2.alloc (.cells #[.bool false, .int .i64 0, .int .u64 0, .int .u64 0, .int .u64 0, .int .u64 0, .int .u64 0, .int .u64 0] 24)).there w2.heap.size 0 V.size := by rw [hVs]; exact HA.out.at0.thereAll
                have hlt : w.heap.size < w2.heap.size := HR2.out.at0.lt
                have hle : w.heap.size ≤ w2.heap.size := HR2.out.2.size
                clear HR2
                go_wp2_with (first | (refine wpList_store_mid rfl 24 (.tmp 9) (.tmp 52) rfl w2.heap.size 0 V rfl rfl hVt hVi hVo (stop_here ?_)))
                have HS : Hid (Rws w ((w2.alloc (.cells #[.bool false, .int .i64 0, .int .u64 0, .int .u64 0, .int .u64 0, .int .u64 0, .int .u64 0, .int .u64 0] 24)).setCells w2.heap.size 0 V.toList) [(w2.heap.size, 24, #[.bool false, .int .i64 0, .int .u64 s.se, .int .u64 s.mi, .int .u64 s.ho, .int .u64 s.dom, .int .u64 s.mo, .int .u64 s.dow]), (w.heap.size, 48, #[.int .i64 sec, .int .i64 ns])]) := Lib.hid (by rw [HV.out]; exact HA.out.put8 (by intro r hr; simp at hr; subst hr; simp; omega) hle (.bool false) (.int .i64 0) (.int .u64 s.se) (.int .u64 s.mi) (.int .u64 s.ho) (.int .u64 s.dom) (.int .u64 s.mo) (.int .u64 s.dow))
                generalize (w2.alloc _).setCells w2.heap.size 0 _ = W1 at HS ⊢
                clear HA hVt hVi hVo hVs HV hlt hle
                generalize w2.heap.size = p0 at HS ⊢
                unfold Stop
                go_wp2_with fail
                obtain ⟨L0, HL0⟩ : ∃ L0 : List (Nat × TypeId × Array Value), Hid (L0 = [(p0, 24, #[.bool false, .int .i64 0, .int .u64 s.se, .int .u64 s.mi, .int .u64 s.ho, .int .u64 s.dom, .int .u64 s.mo, .int .u64 s.dow]), (w.heap.size, 48, #[.int .i64 sec, .int .i64 ns])]) := ⟨_, rfl⟩
                rw [← HL0.out] at HS
                refine reg_framex (fun p => [(55, .agg #[.bool false, .int .i64 0, .int .u64 s.se, .int .u64 s.mi, .int .u64 s.ho, .int .u64 s.dom, .int .u64 s.mo, .int .u64 s.dow]), (56, .agg #[.int .i64 sec, .int .i64 ns]), (57, .agg #[.slice none 0 0, .slice none 0 0, .slice none 0 0, .slice none 0 0]), (58, .tuple #[.agg #[.int .i64 x, .int .i64 0], .bool true]), (54, .tuple #[.agg #[.int .i64 x, .int .i64 0], .bool true]), (59, .agg #[.int .i64 x, .int .i64 0]), (60, .bool true), (11, .pointer (some ⟨p, 0, none⟩)), (12, .bool true)]) (fun p w' => Rws w w' ((p, 48, #[.int .i64 x, .int .i64 0]) :: L0)) ?reg ?hq
                case reg =>
                  have HFd : Hid (Rws w W1.drew L0) := Lib.hid HS.out.drew
                  refine wp_region_held_drew (S := fun w' => Hid (Rws w w' L0)) (by kernel_rfl) HFd (fun hHeld => ?_)
                  generalize W1.drew = Wd at HFd hHeld ⊢
                  (try simp only [Act.put, List.getElem_toArray, List.getElem_cons_zero, List.getElem_cons_succ, List.setIfInBounds_toArray, List.set_cons_zero, List.set_cons_succ])
                  refine wpAnyH_take (i := 0) (v := ?_) rfl (by kernel_rfl) (by kernel_rfl) (by kernel_rfl) (fun _ _ _ h => nomatch h.1) (Or.inl ⟨by rfl, ?_⟩) (by assumption) ?_
                  rotate_left
                  · (intro wx hSw; have hSx := hSw.out; rw [HL0.out] at hSx; have k0 : wx.cell? ⟨p0, 0, none⟩ = some (.bool false) := hSx.at0.cell 0; have k1 : wx.cell? ⟨p0, 1, none⟩ = some (.int .i64 0) := hSx.at0.cell 1; have k2 : wx.cell? ⟨p0, 2, none⟩ = some (.int .u64 s.se) := hSx.at0.cell 2; have k3 : wx.cell? ⟨p0, 3, none⟩ = some (.int .u64 s.mi) := hSx.at0.cell 3; have k4 : wx.cell? ⟨p0, 4, none⟩ = some (.int .u64 s.ho) := hSx.at0.cell 4; have k5 : wx.cell? ⟨p0, 5, none⟩ = some (.int .u64 s.dom) := hSx.at0.cell 5; have k6 : wx.cell? ⟨p0, 6, none⟩ = some (.int .u64 s.mo) := hSx.at0.cell 6; have k7 : wx.cell? ⟨p0, 7, none⟩ = some (.int .u64 s.dow) := hSx.at0.cell 7; go_simp; (try with_reducible rfl))
                  (try simp only [Act.put, List.getElem_toArray, List.getElem_cons_zero, List.getElem_cons_succ, List.setIfInBounds_toArray, List.set_cons_zero, List.set_cons_succ])
                  refine wpAnyH_take (i := 1) (v := ?_) rfl (by kernel_rfl) (by kernel_rfl) (by kernel_rfl) (fun _ _ _ h => nomatch h.1) (Or.inl ⟨by rfl, ?_⟩) (by assumption) ?_
                  rotate_left
                  · (intro wx hSw; have hSx := hSw.out; rw [HL0.out] at hSx; have k0 : wx.cell? ⟨w.heap.size, 0, none⟩ = some (.int .i64 sec) := hSx.tail.at0.cell 0; have k1 : wx.cell? ⟨w.heap.size, 1, none⟩ = some (.int .i64 ns) := hSx.tail.at0.cell 1; go_simp; (try with_reducible rfl))
                  (try simp only [Act.put, List.getElem_toArray, List.getElem_cons_zero, List.getElem_cons_succ, List.setIfInBounds_toArray, List.set_cons_zero, List.set_cons_succ])
                  refine wpAnyH_ready (rs := [2, 7]) (by kernel_rfl) (by simp) ?_
                  refine (AllReadyH.cons rfl (fun K hK => ?_) (AllReadyH.cons rfl (fun K hK => ?_) AllReadyH.nil))
                  · go_simp
                    go_at_call 21
                    refine (cronUTC_any _).mono ?_
                    rintro e v1 ⟨rfl, hb⟩
                    have HF1 : Hid (Rws w v1 L0) := Lib.hid (HFd.out.below hb)
                    clear hb HFd
                    have HN : Hid (Rws w v1 L0) := Lib.hid HF1.out
                    refine hK.out _ _ HN (fun hH2 => ?_)
                    clear hK K hHeld
                    have hHeld := hH2
                    clear hH2
                    (try simp only [Act.put, List.getElem_toArray, List.getElem_cons_zero, List.getElem_cons_succ, List.setIfInBounds_toArray, List.set_cons_zero, List.set_cons_succ])
                    refine wpAnyH_ready (rs := [3, 7]) (by kernel_rfl) (by simp) ?_
                    refine (AllReadyH.cons rfl (fun K hK => ?_) (AllReadyH.cons rfl (fun K hK => ?_) AllReadyH.nil))
                    · go_simp
                      go_at_call 20
                      refine (HNX.out _).mono ?_
                      rintro e v2 ⟨rfl, hb⟩
                      have HF2 : Hid (Rws w v2 L0) := Lib.hid (HF1.out.below hb)
                      clear hb HF1
                      have HN : Hid (Rws w v2 L0) := Lib.hid HF2.out
                      refine hK.out _ _ HN (fun hH2 => ?_)
                      clear hK K hHeld
                      have hHeld := hH2
                      clear hH2
                      (try simp only [Act.put, List.getElem_toArray, List.getElem_cons_zero, List.getElem_cons_succ, List.setIfInBounds_toArray, List.set_cons_zero, List.set_cons_succ])
                      refine wpAnyH_take (i := 4) (v := ?_) rfl (by kernel_rfl) (by kernel_rfl) (by kernel_rfl) (fun _ _ _ h => nomatch h.1) (Or.inl ⟨by rfl, ?_⟩) (by assumption) ?_
                      rotate_left
                      · (intro wx hSw; go_simp; (try with_reducible rfl))
                      (try simp only [Act.put, List.getElem_toArray, List.getElem_cons_zero, List.getElem_cons_succ, List.setIfInBounds_toArray, List.set_cons_zero, List.set_cons_succ])
                      refine wpAnyH_take (i := 5) (v := ?_) rfl (by kernel_rfl) (by kernel_rfl) (by kernel_rfl) (fun _ _ _ h => nomatch h.1) (Or.inl ⟨by rfl, ?_⟩) (by assumption) ?_
                      rotate_left
                      · (intro wx hSw; go_simp; (try with_reducible rfl))
                      (try simp only [Act.put, List.getElem_toArray, List.getElem_cons_zero, List.getElem_cons_succ, List.setIfInBounds_toArray, List.set_cons_zero, List.set_cons_succ])
                      refine wpAnyH_take (i := 6) (v := ?_) rfl (by kernel_rfl) (by kernel_rfl) (by kernel_rfl) (fun _ _ _ h => nomatch h.1) (Or.inl ⟨by rfl, ?_⟩) (by assumption) ?_
                      rotate_left
                      · (intro wx hSw; go_simp; (try with_reducible rfl))
                      (try simp only [Act.put, List.getElem_toArray, List.getElem_cons_zero, List.getElem_cons_succ, List.setIfInBounds_toArray, List.set_cons_zero, List.set_cons_succ])
                      refine wpAnyH_ready (rs := [7]) (by kernel_rfl) (by simp) ?_
                      refine (AllReadyH.cons rfl (fun K hK => ?_) AllReadyH.nil)
                      go_simp
                      obtain ⟨p3, hp⟩ : ∃ p3, p3 = v2.heap.size := ⟨_, rfl⟩
                      (try rw [← hp])
                      have HLp3 : Hid ((∀ r ∈ L0, r.1 < p3) ∧ w.heap.size ≤ p3) := Lib.hid ⟨by rw [hp]; exact HF2.out.lt, by rw [hp]; exact HF2.out.2.size⟩
                      have HF3 : Hid (Rws w (v2.alloc (.cells #[.int .i64 0, .int .i64 0] 48)) ((p3, 48, #[.int .i64 0, .int .i64 0]) :: L0)) := Lib.hid (HF2.out.alloc p3 hp _ _)
                      clear HF2 hp
                      refine kHeld hK.out (W := v2.alloc (.cells #[.int .i64 0, .int .i64 0] 48)) (Lib.hid HF3.out.tail) (fun hH2 => ?_)
                      clear hK K hHeld
                      have hHeld := hH2
                      clear hH2
                      generalize v2.alloc (.cells #[.int .i64 0, .int .i64 0] 48) = a3 at hHeld HF3 ⊢
                      (try simp only [Act.put, List.getElem_toArray, List.getElem_cons_zero, List.getElem_cons_succ, List.setIfInBounds_toArray, List.set_cons_zero, List.set_cons_succ])
                      refine wpAnyH_ready (rs := [8]) (by kernel_rfl) (by simp) ?_
                      refine (AllReadyH.cons rfl (fun K hK => ?_) AllReadyH.nil)
                      have c0 : a3.cell? ⟨p3, 0, none⟩ = some (.int .i64 0) := HF3.out.at0.cell 0
                      have c1 : a3.cell? ⟨p3, 1, none⟩ = some (.int .i64 0) := HF3.out.at0.cell 1
                      have f0 := HF3.out.at0.free 0
                      have f1 := HF3.out.at0.free 1
                      have HE : Hid (Rws w ((a3.setCell ⟨p3, 0, none⟩ (.int .i64 x)).setCell ⟨p3, 1, none⟩ (.int .i64 0)) ((p3, 48, #[.int .i64 x, .int .i64 0]) :: L0)) := Lib.hid (HF3.out.set2 HLp3.out.1 HLp3.out.2 _ _)
                      have HN : Hid (Rws w ((a3.setCell ⟨p3, 0, none⟩ (.int .i64 x)).setCell ⟨p3, 1, none⟩ (.int .i64 0)) L0) := Lib.hid HE.out.tail
                      go_simp
                      refine hK.out _ _ HN (fun hH2 => ?_)
                      clear hK K hHeld
                      have hHeld := hH2
                      clear hH2
                      (try simp only [Act.put, List.getElem_toArray, List.getElem_cons_zero, List.getElem_cons_succ, List.setIfInBounds_toArray, List.set_cons_zero, List.set_cons_succ])
                      refine wpAnyH_take (i := 9) (v := ?_) rfl (by kernel_rfl) (by kernel_rfl) (by kernel_rfl) (fun _ _ _ h => nomatch h.1) (Or.inl ⟨by rfl, ?_⟩) (by assumption) ?_
                      rotate_left
                      · (intro wx hSw; go_simp; (try with_reducible rfl))
                      (try simp only [Act.put, List.getElem_toArray, List.getElem_cons_zero, List.getElem_cons_succ, List.setIfInBounds_toArray, List.set_cons_zero, List.set_cons_succ])
                      refine wpAnyH_done (by kernel_rfl) ?_ _
                      exact ⟨rfl, p3, by (simp only [puts, Act.put, List.setIfInBounds_toArray, List.set_cons_zero, List.set_cons_succ]), HE.out⟩
                    · go_simp
                      obtain ⟨p4, hp⟩ : ∃ p4, p4 = v1.heap.size := ⟨_, rfl⟩
                      (try rw [← hp])
                      have HLp4 : Hid ((∀ r ∈ L0, r.1 < p4) ∧ w.heap.size ≤ p4) := Lib.hid ⟨by rw [hp]; exact HF1.out.lt, by rw [hp]; exact HF1.out.2.size⟩
                      have HF4 : Hid (Rws w (v1.alloc (.cells #[.int .i64 0, .int .i64 0] 48)) ((p4, 48, #[.int .i64 0, .int .i64 0]) :: L0)) := Lib.hid (HF1.out.alloc p4 hp _ _)
                      clear HF1 hp
                      refine kHeld hK.out (W := v1.alloc (.cells #[.int .i64 0, .int .i64 0] 48)) (Lib.hid HF4.out.tail) (fun hH2 => ?_)
                      clear hK K hHeld
                      have hHeld := hH2
                      clear hH2
                      generalize v1.alloc (.cells #[.int .i64 0, .int .i64 0] 48) = a4 at hHeld HF4 ⊢
                      (try simp only [Act.put, List.getElem_toArray, List.getElem_cons_zero, List.getElem_cons_succ, List.setIfInBounds_toArray, List.set_cons_zero, List.set_cons_succ])
                      refine wpAnyH_ready (rs := [3]) (by kernel_rfl) (by simp) ?_
                      refine (AllReadyH.cons rfl (fun K hK => ?_) AllReadyH.nil)
                      go_simp
                      go_at_call 20
                      refine (HNX.out _).mono ?_
                      rintro e v5 ⟨rfl, hb⟩
                      have HF5 : Hid (Rws w v5 ((p4, 48, #[.int .i64 0, .int .i64 0]) :: L0)) := Lib.hid (HF4.out.below hb)
                      clear hb HF4
                      have HN : Hid (Rws w v5 L0) := Lib.hid HF5.out.tail
                      refine hK.out _ _ HN (fun hH2 => ?_)
                      clear hK K hHeld
                      have hHeld := hH2
                      clear hH2
                      (try simp only [Act.put, List.getElem_toArray, List.getElem_cons_zero, List.getElem_cons_succ, List.setIfInBounds_toArray, List.set_cons_zero, List.set_cons_succ])
                      refine wpAnyH_take (i := 4) (v := ?_) rfl (by kernel_rfl) (by kernel_rfl) (by kernel_rfl) (fun _ _ _ h => nomatch h.1) (Or.inl ⟨by rfl, ?_⟩) (by assumption) ?_
                      rotate_left
                      · (intro wx hSw; go_simp; (try with_reducible rfl))
                      (try simp only [Act.put, List.getElem_toArray, List.getElem_cons_zero, List.getElem_cons_succ, List.setIfInBounds_toArray, List.set_cons_zero, List.set_cons_succ])
                      refine wpAnyH_take (i := 5) (v := ?_) rfl (by kernel_rfl) (by kernel_rfl) (by kernel_rfl) (fun _ _ _ h => nomatch h.1) (Or.inl ⟨by rfl, ?_⟩) (by assumption) ?_
                      rotate_left
                      · (intro wx hSw; go_simp; (try with_reducible rfl))
                      (try simp only [Act.put, List.getElem_toArray, List.getElem_cons_zero, List.getElem_cons_succ, List.setIfInBounds_toArray, List.set_cons_zero, List.set_cons_succ])
                      refine wpAnyH_take (i := 6) (v := ?_) rfl (by kernel_rfl) (by kernel_rfl) (by kernel_rfl) (fun _ _ _ h => nomatch h.1) (Or.inl ⟨by rfl, ?_⟩) (by assumption) ?_
                      rotate_left
                      · (intro wx hSw; go_simp; (try with_reducible rfl))
                      (try simp only [Act.put, List.getElem_toArray, List.getElem_cons_zero, List.getElem_cons_succ, List.setIfInBounds_toArray, List.set_cons_zero, List.set_cons_succ])
                      refine wpAnyH_ready (rs := [8]) (by kernel_rfl) (by simp) ?_
                      refine (AllReadyH.cons rfl (fun K hK => ?_) AllReadyH.nil)
                      have c0 : v5.cell? ⟨p4, 0, none⟩ = some (.int .i64 0) := HF5.out.at0.cell 0
                      have c1 : v5.cell? ⟨p4, 1, none⟩ = some (.int .i64 0) := HF5.out.at0.cell 1
                      have f0 := HF5.out.at0.free 0
                      have f1 := HF5.out.at0.free 1
                      have HE : Hid (Rws w ((v5.setCell ⟨p4, 0, none⟩ (.int .i64 x)).setCell ⟨p4, 1, none⟩ (.int .i64 0)) ((p4, 48, #[.int .i64 x, .int .i64 0]) :: L0)) := Lib.hid (HF5.out.set2 HLp4.out.1 HLp4.out.2 _ _)
                      have HN : Hid (Rws w ((v5.setCell ⟨p4, 0, none⟩ (.int .i64 x)).setCell ⟨p4, 1, none⟩ (.int .i64 0)) L0) := Lib.hid HE.out.tail
                      go_simp
                      refine hK.out _ _ HN (fun hH2 => ?_)
                      clear hK K hHeld
                      have hHeld := hH2
                      clear hH2
                      (try simp only [Act.put, List.getElem_toArray, List.getElem_cons_zero, List.getElem_cons_succ, List.setIfInBounds_toArray, List.set_cons_zero, List.set_cons_succ])
                      refine wpAnyH_take (i := 9) (v := ?_) rfl (by kernel_rfl) (by kernel_rfl) (by kernel_rfl) (fun _ _ _ h => nomatch h.1) (Or.inl ⟨by rfl, ?_⟩) (by assumption) ?_
                      rotate_left
                      · (intro wx hSw; go_simp; (try with_reducible rfl))
                      (try simp only [Act.put, List.getElem_toArray, List.getElem_cons_zero, List.getElem_cons_succ, List.setIfInBounds_toArray, List.set_cons_zero, List.set_cons_succ])
                      refine wpAnyH_done (by kernel_rfl) ?_ _
                      exact ⟨rfl, p4, by (simp only [puts, Act.put, List.setIfInBounds_toArray, List.set_cons_zero, List.set_cons_succ]), HE.out⟩
                  · go_simp
                    obtain ⟨p6, hp⟩ : ∃ p6, p6 = Wd.heap.size := ⟨_, rfl⟩
                    (try rw [← hp])
                    have HLp6 : Hid ((∀ r ∈ L0, r.1 < p6) ∧ w.heap.size ≤ p6) := Lib.hid ⟨by rw [hp]; exact HFd.out.lt, by rw [hp]; exact HFd.out.2.size⟩
                    have HF6 : Hid (Rws w (Wd.alloc (.cells #[.int .i64 0, .int .i64 0] 48)) ((p6, 48, #[.int .i64 0, .int .i64 0]) :: L0)) := Lib.hid (HFd.out.alloc p6 hp _ _)
                    clear HFd hp
                    refine kHeld hK.out (W := Wd.alloc (.cells #[.int .i64 0, .int .i64 0] 48)) (Lib.hid HF6.out.tail) (fun hH2 => ?_)
                    clear hK K hHeld
                    have hHeld := hH2
                    clear hH2
                    generalize Wd.alloc (.cells #[.int .i64 0, .int .i64 0] 48) = a6 at hHeld HF6 ⊢
                    (try simp only [Act.put, List.getElem_toArray, List.getElem_cons_zero, List.getElem_cons_succ, List.setIfInBounds_toArray, List.set_cons_zero, List.set_cons_succ])
                    refine wpAnyH_ready (rs := [2]) (by kernel_rfl) (by simp) ?_
                    refine (AllReadyH.cons rfl (fun K hK => ?_) AllReadyH.nil)
                    go_simp
                    go_at_call 21
                    refine (cronUTC_any _).mono ?_
                    rintro e v7 ⟨rfl, hb⟩
                    have HF7 : Hid (Rws w v7 ((p6, 48, #[.int .i64 0, .int .i64 0]) :: L0)) := Lib.hid (HF6.out.below hb)
                    clear hb HF6
                    have HN : Hid (Rws w v7 L0) := Lib.hid HF7.out.tail
                    refine hK.out _ _ HN (fun hH2 => ?_)
                    clear hK K hHeld
                    have hHeld := hH2
                    clear hH2
                    (try simp only [Act.put, List.getElem_toArray, List.getElem_cons_zero, List.getElem_cons_succ, List.setIfInBounds_toArray, List.set_cons_zero, List.set_cons_succ])
                    refine wpAnyH_ready (rs := [3]) (by kernel_rfl) (by simp) ?_
                    refine (AllReadyH.cons rfl (fun K hK => ?_) AllReadyH.nil)
                    go_simp
                    go_at_call 20
                    refine (HNX.out _).mono ?_
                    rintro e v8 ⟨rfl, hb⟩
                    have HF8 : Hid (Rws w v8 ((p6, 48, #[.int .i64 0, .int .i64 0]) :: L0)) := Lib.hid (HF7.out.below hb)
                    clear hb HF7
                    have HN : Hid (Rws w v8 L0) := Lib.hid HF8.out.tail
                    refine hK.out _ _ HN (fun hH2 => ?_)
                    clear hK K hHeld
                    have hHeld := hH2
                    clear hH2
                    (try simp only [Act.put, List.getElem_toArray, List.getElem_cons_zero, List.getElem_cons_succ, List.setIfInBounds_toArray, List.set_cons_zero, List.set_cons_succ])
                    refine wpAnyH_take (i := 4) (v := ?_) rfl (by kernel_rfl) (by kernel_rfl) (by kernel_rfl) (fun _ _ _ h => nomatch h.1) (Or.inl ⟨by rfl, ?_⟩) (by assumption) ?_
                    rotate_left
                    · (intro wx hSw; go_simp; (try with_reducible rfl))
                    (try simp only [Act.put, List.getElem_toArray, List.getElem_cons_zero, List.getElem_cons_succ, List.setIfInBounds_toArray, List.set_cons_zero, List.set_cons_succ])
                    refine wpAnyH_take (i := 5) (v := ?_) rfl (by kernel_rfl) (by kernel_rfl) (by kernel_rfl) (fun _ _ _ h => nomatch h.1) (Or.inl ⟨by rfl, ?_⟩) (by assumption) ?_
                    rotate_left
                    · (intro wx hSw; go_simp; (try with_reducible rfl))
                    (try simp only [Act.put, List.getElem_toArray, List.getElem_cons_zero, List.getElem_cons_succ, List.setIfInBounds_toArray, List.set_cons_zero, List.set_cons_succ])
                    refine wpAnyH_take (i := 6) (v := ?_) rfl (by kernel_rfl) (by kernel_rfl) (by kernel_rfl) (fun _ _ _ h => nomatch h.1) (Or.inl ⟨by rfl, ?_⟩) (by assumption) ?_
                    rotate_left
                    · (intro wx hSw; go_simp; (try with_reducible rfl))
                    (try simp only [Act.put, List.getElem_toArray, List.getElem_cons_zero, List.getElem_cons_succ, List.setIfInBounds_toArray, List.set_cons_zero, List.set_cons_succ])
                    refine wpAnyH_ready (rs := [8]) (by kernel_rfl) (by simp) ?_
                    refine (AllReadyH.cons rfl (fun K hK => ?_) AllReadyH.nil)
                    have c0 : v8.cell? ⟨p6, 0, none⟩ = some (.int .i64 0) := HF8.out.at0.cell 0
                    have c1 : v8.cell? ⟨p6, 1, none⟩ = some (.int .i64 0) := HF8.out.at0.cell 1
                    have f0 := HF8.out.at0.free 0
                    have f1 := HF8.out.at0.free 1
                    have HE : Hid (Rws w ((v8.setCell ⟨p6, 0, none⟩ (.int .i64 x)).setCell ⟨p6, 1, none⟩ (.int .i64 0)) ((p6, 48, #[.int .i64 x, .int .i64 0]) :: L0)) := Lib.hid (HF8.out.set2 HLp6.out.1 HLp6.out.2 _ _)
                    have HN : Hid (Rws w ((v8.setCell ⟨p6, 0, none⟩ (.int .i64 x)).setCell ⟨p6, 1, none⟩ (.int .i64 0)) L0) := Lib.hid HE.out.tail
                    go_simp
                    refine hK.out _ _ HN (fun hH2 => ?_)
                    clear hK K hHeld
                    have hHeld := hH2
                    clear hH2
                    (try simp only [Act.put, List.getElem_toArray, List.getElem_cons_zero, List.getElem_cons_succ, List.setIfInBounds_toArray, List.set_cons_zero, List.set_cons_succ])
                    refine wpAnyH_take (i := 9) (v := ?_) rfl (by kernel_rfl) (by kernel_rfl) (by kernel_rfl) (fun _ _ _ h => nomatch h.1) (Or.inl ⟨by rfl, ?_⟩) (by assumption) ?_
                    rotate_left
                    · (intro wx hSw; go_simp; (try with_reducible rfl))
                    (try simp only [Act.put, List.getElem_toArray, List.getElem_cons_zero, List.getElem_cons_succ, List.setIfInBounds_toArray, List.set_cons_zero, List.set_cons_succ])
                    refine wpAnyH_done (by kernel_rfl) ?_ _
                    exact ⟨rfl, p6, by (simp only [puts, Act.put, List.setIfInBounds_toArray, List.set_cons_zero, List.set_cons_succ]), HE.out⟩
                case hq =>
                  rintro p1 W4 hF
                  rw [HL0.out] at hF
                  (simp only [puts, Act.put, List.setIfInBounds_toArray, List.set_cons_zero, List.set_cons_succ])
                  have HQ4 := Lib.hid hF
                  clear hF HL0 L0 HS
                  go_wp2_with fail
                  obtain ⟨L0, HL0⟩ : ∃ L0 : List (Nat × TypeId × Array Value), Hid (L0 = [(p1, 48, #[.int .i64 x, .int .i64 0]), (p0, 24, #[.bool false, .int .i64 0, .int .u64 s.se, .int .u64 s.mi, .int .u64 s.ho, .int .u64 s.dom, .int .u64 s.mo, .int .u64 s.dow]), (w.heap.size, 48, #[.int .i64 sec, .int .i64 ns])]) := ⟨_, rfl⟩
                  rw [← HL0.out] at HQ4
                  have HFd : Hid (Rws w W4.drew L0) := Lib.hid HQ4.out.drew
                  refine wp_region_held_drew (S := fun w' => Hid (Rws w w' L0)) (by kernel_rfl) HFd (fun hHeld => ?_)
                  clear HFd
                  generalize W4.drew = Wd at hHeld ⊢
                  (try simp only [Act.put, List.getElem_toArray, List.getElem_cons_zero, List.getElem_cons_succ, List.setIfInBounds_toArray, List.set_cons_zero, List.set_cons_succ])
                  refine wpAnyH_take (i := 0) (v := ?_) rfl (by kernel_rfl) (by kernel_rfl) (by kernel_rfl) (fun _ _ _ h => h) (Or.inl ⟨by rfl, ?_⟩) (by assumption) ?_
                  rotate_left
                  · (intro wx hSw; go_simp; (try with_reducible rfl))
                  (try simp only [Act.put, List.getElem_toArray, List.getElem_cons_zero, List.getElem_cons_succ, List.setIfInBounds_toArray, List.set_cons_zero, List.set_cons_succ])
                  refine wpAnyH_take (i := 1) (v := ?_) rfl (by kernel_rfl) (by kernel_rfl) (by kernel_rfl) (fun _ _ _ h => h) (Or.inl ⟨by rfl, ?_⟩) (by assumption) ?_
                  rotate_left
                  · (intro wx hSw; go_simp; (try with_reducible rfl))
                  (try simp only [Act.put, List.getElem_toArray, List.getElem_cons_zero, List.getElem_cons_succ, List.setIfInBounds_toArray, List.set_cons_zero, List.set_cons_succ])
                  refine wpAnyH_take (i := 2) (v := ?_) rfl (by kernel_rfl) (by kernel_rfl) (by kernel_rfl) (fun _ _ _ h => h) (Or.inl ⟨by rfl, ?_⟩) (by assumption) ?_
                  rotate_left
                  · (intro wx hSw; go_simp; (try with_reducible rfl))
                  (try simp only [Act.put, List.getElem_toArray, List.getElem_cons_zero, List.getElem_cons_succ, List.setIfInBounds_toArray, List.set_cons_zero, List.set_cons_succ])
                  refine wpAnyH_take (i := 3) (v := ?_) rfl (by kernel_rfl) (by kernel_rfl) (by kernel_rfl) (fun _ _ _ h => h) (Or.inl ⟨by rfl, ?_⟩) (by assumption) ?_
                  rotate_left
                  · (intro wx hSw; go_simp; (try with_reducible rfl))
                  (try simp only [Act.put, List.getElem_toArray, List.getElem_cons_zero, List.getElem_cons_succ, List.setIfInBounds_toArray, List.set_cons_zero, List.set_cons_succ])
                  refine wpAnyH_take (i := 4) (v := ?_) rfl (by kernel_rfl) (by kernel_rfl) (by kernel_rfl) (fun _ _ _ h => h) (Or.inl ⟨by rfl, ?_⟩) (by assumption) ?_
                  rotate_left
                  · (intro wx hSw; go_simp; (try with_reducible rfl))
                  (try simp only [Act.put, List.getElem_toArray, List.getElem_cons_zero, List.getElem_cons_succ, List.setIfInBounds_toArray, List.set_cons_zero, List.set_cons_succ])
                  refine wpAnyH_take (i := 5) (v := ?_) rfl (by kernel_rfl) (by kernel_rfl) (by kernel_rfl) (fun _ _ _ h => h) (Or.inl ⟨by rfl, ?_⟩) (by assumption) ?_
                  rotate_left
                  · (intro wx hSw; have hSx := hSw.out; rw [HL0.out] at hSx; have k0 : wx.cell? ⟨p1, 0, none⟩ = some (.int .i64 x) := hSx.at0.cell 0; have k1 : wx.cell? ⟨p1, 1, none⟩ = some (.int .i64 0) := hSx.at0.cell 1; go_simp; (try with_reducible rfl))
                  (try simp only [Act.put, List.getElem_toArray, List.getElem_cons_zero, List.getElem_cons_succ, List.setIfInBounds_toArray, List.set_cons_zero, List.set_cons_succ])
                  refine wpAnyH_take (i := 6) (v := ?_) rfl (by kernel_rfl) (by kernel_rfl) (by kernel_rfl) (fun _ _ _ h => h) (Or.inl ⟨by rfl, ?_⟩) (by assumption) ?_
                  rotate_left
                  · (intro wx hSw; go_simp; (try with_reducible rfl))
                  (try simp only [Act.put, List.getElem_toArray, List.getElem_cons_zero, List.getElem_cons_succ, List.setIfInBounds_toArray, List.set_cons_zero, List.set_cons_succ])
                  refine wpAnyH_take (i := 7) (v := ?_) rfl (by kernel_rfl) (by kernel_rfl) (by kernel_rfl) (fun _ _ _ h => h) (Or.inl ⟨by rfl, ?_⟩) (by assumption) ?_
                  rotate_left
                  · (intro wx hSw; have hSx := hSw.out; rw [HL0.out] at hSx; have k0 : wx.cell? ⟨w.heap.size, 0, none⟩ = some (.int .i64 sec) := hSx.tail.tail.at0.cell 0; have k1 : wx.cell? ⟨w.heap.size, 1, none⟩ = some (.int .i64 ns) := hSx.tail.tail.at0.cell 1; go_simp; (try with_reducible rfl))
                  (try simp only [Act.put, List.getElem_toArray, List.getElem_cons_zero, List.getElem_cons_succ, List.setIfInBounds_toArray, List.set_cons_zero, List.set_cons_succ])
                  refine wpAnyH_take (i := 8) (v := ?_) rfl (by kernel_rfl) (by kernel_rfl) (by kernel_rfl) (fun _ _ _ h => h) (Or.inl ⟨by rfl, ?_⟩) (by assumption) ?_
                  rotate_left
                  · (intro wx hSw; go_simp; (try with_reducible rfl))
                  (try simp only [Act.put, List.getElem_toArray, List.getElem_cons_zero, List.getElem_cons_succ, List.setIfInBounds_toArray, List.set_cons_zero, List.set_cons_succ])
                  refine wpAnyH_take (i := 9) (v := .int .i64 ((d : Int) + 3)) rfl (by kernel_rfl) (by kernel_rfl) (by kernel_rfl) (fun _ _ _ h => h) (Or.inl ⟨by rfl, ?_⟩) (by assumption) ?_
                  · (intro wx hSw; go_simp; (first | (rw [IntKind.wrap_i64]; omega) | (rw [Int.tmod_eq_emod_of_nonneg (by omega)])))
                  (try simp only [Act.put, List.getElem_toArray, List.getElem_cons_zero, List.getElem_cons_succ, List.setIfInBounds_toArray, List.set_cons_zero, List.set_cons_succ])
                  refine wpAnyH_take (i := 10) (v := .int .i64 (((d : Int) + 3) % 7)) rfl (by kernel_rfl) (by kernel_rfl) (by kernel_rfl) (fun _ _ _ h => h) (Or.inl ⟨by rfl, ?_⟩) (by assumption) ?_
                  · (intro wx hSw; go_simp; (first | (rw [IntKind.wrap_i64]; omega) | (rw [Int.tmod_eq_emod_of_nonneg (by omega)])))
                  (try simp only [Act.put, List.getElem_toArray, List.getElem_cons_zero, List.getElem_cons_succ, List.setIfInBounds_toArray, List.set_cons_zero, List.set_cons_succ])
                  refine wpAnyH_take (i := 11) (v := .int .i64 (86400 * (((d : Int) + 3) % 7))) rfl (by kernel_rfl) (by kernel_rfl) (by kernel_rfl) (fun _ _ _ h => h) (Or.inl ⟨by rfl, ?_⟩) (by assumption) ?_
                  · (intro wx hSw; go_simp; (first | (rw [IntKind.wrap_i64]; omega) | (rw [Int.tmod_eq_emod_of_nonneg (by omega)])))
                  (try simp only [Act.put, List.getElem_toArray, List.getElem_cons_zero, List.getElem_cons_succ, List.setIfInBounds_toArray, List.set_cons_zero, List.set_cons_succ])
                  refine wpAnyH_take (i := 12) (v := ?_) rfl (by kernel_rfl) (by kernel_rfl) (by kernel_rfl) (fun _ _ _ h => h) (Or.inl ⟨by rfl, ?_⟩) (by assumption) ?_
                  rotate_left
                  · (intro wx hSw; go_simp; (try with_reducible rfl))
                  (try simp only [Act.put, List.getElem_toArray, List.getElem_cons_zero, List.getElem_cons_succ, List.setIfInBounds_toArray, List.set_cons_zero, List.set_cons_succ])
                  refine wpAnyH_take (i := 13) (v := .int .i64 (3600 * (h : Int))) rfl (by kernel_rfl) (by kernel_rfl) (by kernel_rfl) (fun _ _ _ h => h) (Or.inl ⟨by rfl, ?_⟩) (by assumption) ?_
                  · (intro wx hSw; go_simp; (first | (rw [IntKind.wrap_i64]; omega) | (rw [Int.tmod_eq_emod_of_nonneg (by omega)])))
                  (try simp only [Act.put, List.getElem_toArray, List.getElem_cons_zero, List.getElem_cons_succ, List.setIfInBounds_toArray, List.set_cons_zero, List.set_cons_succ])
                  refine wpAnyH_take (i := 14) (v := .int .i64 (86400 * (((d : Int) + 3) % 7) + 3600 * h)) rfl (by kernel_rfl) (by kernel_rfl) (by kernel_rfl) (fun _ _ _ h => h) (Or.inl ⟨by rfl, ?_⟩) (by assumption) ?_
                  · (intro wx hSw; go_simp; (first | (rw [IntKind.wrap_i64]; omega) | (rw [Int.tmod_eq_emod_of_nonneg (by omega)])))
                  (try simp only [Act.put, List.getElem_toArray, List.getElem_cons_zero, List.getElem_cons_succ, List.setIfInBounds_toArray, List.set_cons_zero, List.set_cons_succ])
                  refine wpAnyH_take (i := 15) (v := ?_) rfl (by kernel_rfl) (by kernel_rfl) (by kernel_rfl) (fun _ _ _ h => h) (Or.inl ⟨by rfl, ?_⟩) (by assumption) ?_
                  rotate_left
                  · (intro wx hSw; go_simp; (try with_reducible rfl))
                  (try simp only [Act.put, List.getElem_toArray, List.getElem_cons_zero, List.getElem_cons_succ, List.setIfInBounds_toArray, List.set_cons_zero, List.set_cons_succ])
                  refine wpAnyH_take (i := 16) (v := .int .i64 (60 * (m : Int))) rfl (by kernel_rfl) (by kernel_rfl) (by kernel_rfl) (fun _ _ _ h => h) (Or.inl ⟨by rfl, ?_⟩) (by assumption) ?_
                  · (intro wx hSw; go_simp; (first | (rw [IntKind.wrap_i64]; omega) | (rw [Int.tmod_eq_emod_of_nonneg (by omega)])))
                  (try simp only [Act.put, List.getElem_toArray, List.getElem_cons_zero, List.getElem_cons_succ, List.setIfInBounds_toArray, List.set_cons_zero, List.set_cons_succ])
                  refine wpAnyH_take (i := 17) (v := .int .i64 (86400 * (((d : Int) + 3) % 7) + 3600 * h + 60 * m)) rfl (by kernel_rfl) (by kernel_rfl) (by kernel_rfl) (fun _ _ _ h => h) (Or.inl ⟨by rfl, ?_⟩) (by assumption) ?_
                  · (intro wx hSw; go_simp; (first | (rw [IntKind.wrap_i64]; omega) | (rw [Int.tmod_eq_emod_of_nonneg (by omega)])))
                  (try simp only [Act.put, List.getElem_toArray, List.getElem_cons_zero, List.getElem_cons_succ, List.setIfInBounds_toArray, List.set_cons_zero, List.set_cons_succ])
                  rw [← HRW.out]
                  refine wpAnyH_ready (rs := [18]) (by kernel_rfl) (by simp) ?_
                  refine (AllReadyH.cons rfl (fun K hK => ?_) AllReadyH.nil)
                  go_simp
                  go_at_call 23
                  refine (HCM.out _).mono ?_
                  rintro e9 w9 ⟨rfl, rfl⟩
                  refine hK.out _ _ hHeld (fun hH2 => ?_)
                  clear hK K hH2
                  (try simp only [Act.put, List.getElem_toArray, List.getElem_cons_zero, List.getElem_cons_succ, List.setIfInBounds_toArray, List.set_cons_zero, List.set_cons_succ])
                  refine wpAnyH_ready (rs := [19]) (by kernel_rfl) (by simp) ?_
                  refine (AllReadyH.cons rfl (fun K hK => ?_) AllReadyH.nil)
                  go_simp
                  go_at_call 22
                  refine (whole_any x _).mono ?_
                  rintro e9 w9 ⟨rfl, hb⟩
                  refine hK.out _ _ (Lib.hid (hHeld.out.below hb)) (fun hH2 => ?_)
                  clear hK K hHeld hb
                  have hHeld := hH2
                  clear hH2
                  (try simp only [Act.put, List.getElem_toArray, List.getElem_cons_zero, List.getElem_cons_succ, List.setIfInBounds_toArray, List.set_cons_zero, List.set_cons_succ])
                  refine wpAnyH_take (i := 20) (v := ?_) rfl (by kernel_rfl) (by kernel_rfl) (by kernel_rfl) (fun _ _ _ h => h) (Or.inl ⟨by rfl, ?_⟩) (by assumption) ?_
                  rotate_left
                  · (intro wx hSw; go_simp; (try with_reducible rfl))
                  (try simp only [Act.put, List.getElem_toArray, List.getElem_cons_zero, List.getElem_cons_succ, List.setIfInBounds_toArray, List.set_cons_zero, List.set_cons_succ])
                  refine wpAnyH_take (i := 21) (v := ?_) rfl (by kernel_rfl) (by kernel_rfl) (by kernel_rfl) (fun _ _ _ h => h) (Or.inl ⟨by rfl, ?_⟩) (by assumption) ?_
                  rotate_left
                  · (intro wx hSw; go_simp; (try with_reducible rfl))
                  (try simp only [Act.put, List.getElem_toArray, List.getElem_cons_zero, List.getElem_cons_succ, List.setIfInBounds_toArray, List.set_cons_zero, List.set_cons_succ])
                  refine wpAnyH_take (i := 22) (v := ?_) rfl (by kernel_rfl) (by kernel_rfl) (by kernel_rfl) (fun _ _ _ h => h) (Or.inl ⟨by rfl, ?_⟩) (by assumption) ?_
                  rotate_left
                  · (intro wx hSw; go_simp; (try with_reducible rfl))
                  (try simp only [Act.put, List.getElem_toArray, List.getElem_cons_zero, List.getElem_cons_succ, List.setIfInBounds_toArray, List.set_cons_zero, List.set_cons_succ])
                  refine wpAnyH_done (by kernel_rfl) ?_ _
                  (try simp only [Act.put, List.getElem_toArray, List.getElem_cons_zero, List.getElem_cons_succ, List.setIfInBounds_toArray, List.set_cons_zero, List.set_cons_succ])
                  go_wp2_with fail
                  go_ret
                  exact ⟨rfl, hHeld.out.2⟩
theorem law_weekly (a0 a1 a2 : Int) (a3_0 a3_1 : Int) (w0 : (Lit.int .i64 a0).wf = true) (w1 : (Lit.int .i64 a1).wf = true) (w2 : (Lit.int .i64 a2).wf = true) (w3_0 : (Lit.int .i64 a3_0).wf = true) (w3_1 : (Lit.int .i64 a3_1).wf = true) (w : World) (he : Hid (Errs w)) :
    Calls Tryz.prog 5 #[.int .i64 a0, .int .i64 a1, .int .i64 a2, .agg #[.int .i64 a3_0, .int .i64 a3_1]] w fun e w' => e = .returned (.bool true) ∧ Below w.heap.size w w' := weekly_law a0 a1 a2 a3_0 a3_1 w he
end Go.Proofs.YtkhggefbkhdimaaGreatDoor
