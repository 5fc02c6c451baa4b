/- laws.FnCronDowOptional. -/
import Derived.Test.YtkhggefbkhdimaaGreatDoorFeT
import Derived.Test.YtkhggefbkhdimaaGreatDoorGFm
import Derived.Test.YtkhggefbkhdimaaGreatDoorFeS
namespace Go.Proofs.YtkhggefbkhdimaaGreatDoor
open Go.RowKit Go.Shelf
set_option linter.unusedVariables false
set_option linter.unusedSimpArgs false

theorem eql_sched (a b c d e f : Nat) (W : World) : (binOp .eql 24 (.agg (implC a b c d e f).toArray) (.agg (implC a b c d e f).toArray)).run Tryz.prog W = .ok (.bool true) W := by
  unfold implC
  go_simp
/-- Where both texts are parsed to the same. -/
def ParsesTo (o : Int) (s : ByteArray) (V : Array Value) (ok : Bool) : Prop := ∀ W : World, Hid (Errs W) → Calls Tryz.prog 15 #[.int .i64 o, .string s] W fun en w' => en = .returned (.tuple #[.agg V, .bool ok]) ∧ Below W.heap.size W w'
def NothingIs (o : Int) (s : ByteArray) : Prop := ∀ W : World, Calls Tryz.prog 17 #[.int .i64 o, .string s] W fun e w' => e = .returned (.bool true) ∧ Below W.heap.size W w'
theorem range_lt2 {w : World} {g : Nat} {l : List Value} (h : w.rangeAt g 0 l) (hl : 0 < l.length) : g < w.heap.size := by
  have := h 0 l[0] (by simp [hl])
  exact World.block_lt_of_cell? w _ this
theorem all6_of (r : Nat → Option Nat) (h : ∀ i, i < 6 → (r i).isSome = true) : all6 r = true := by
  unfold all6
  rw [h 0 (by omega), h 1 (by omega), h 2 (by omega), h 3 (by omega), h 4 (by omega), h 5 (by omega)]
  rfl
theorem dow_facts (o : Int) (h : DowO o) (h2 : (bits .and .i64 o 2 != 0) = false) (h7 : (bits .and .i64 o 128 != 0) = true) (s t : ByteArray) (hs : PlainT s) (ht : t.data.toList = s.data.toList ++ [32, 42]) (hl : wordsB s ≠ []) (hn : (wordsB s).length + 1 = cntT (tkO o) 6) :
    ∃ (a b c d e f : Nat) (ok : Bool), ParsesTo o s (implC a b c d e f).toArray ok ∧ ParsesTo o t (implC a b c d e f).toArray ok ∧ (ok = true → f = 9223372036854775935) ∧ (ok = false → NothingIs o s) := by
  have hB := fun W he => both_parse o h s t hs ht hl hn W he
  have h5 : fieldJ 5 (dowF o (wordsB s) 5) = some 9223372036854775935 := by rw [dowF_five o h _ hn]; exact dow_star
  have hz : s.size ≠ 0 := by
    intro h0
    apply hl
    have : s.data.toList = [] := List.eq_nil_of_length_eq_zero (by rw [str_len]; exact h0)
    unfold wordsB wordsL
    rw [this]
    rfl
  cases hk : all6 (fun i => fieldJ i (dowF o (wordsB s) i)) with
  | true =>
    refine ⟨(fieldJ 0 (dowF o (wordsB s) 0)).getD 0, (fieldJ 1 (dowF o (wordsB s) 1)).getD 0, (fieldJ 2 (dowF o (wordsB s) 2)).getD 0, (fieldJ 3 (dowF o (wordsB s) 3)).getD 0, (fieldJ 4 (dowF o (wordsB s) 4)).getD 0, (fieldJ 5 (dowF o (wordsB s) 5)).getD 0, true, fun W he => (hB W he).1.mono ?_, fun W he => (hB W he).2.mono ?_, fun _ => by rw [h5]; rfl, fun h => by cases h⟩
    all_goals
      rintro e w' ⟨rfl, hb⟩
      exact ⟨by rw [hk]; rfl, hb⟩
  | false =>
    refine ⟨0, 0, 0, 0, 0, 0, false, fun W he => (hB W he).1.mono ?_, fun W he => (hB W he).2.mono ?_, (fun h => by cases h), fun _ W => ?_⟩
    · rintro e w' ⟨rfl, hb⟩
      exact ⟨by rw [hk]; rfl, hb⟩
    · rintro e w' ⟨rfl, hb⟩
      exact ⟨by rw [hk]; rfl, hb⟩
    · refine meansNothing_any o s (verd (dowF o (wordsB s)) 6) true ?_ (Lib.hid (cronParse_any o s hs hz _ (Lib.hid (cronPlain_any o h2 h7 h.t5 s hs hl hn)))) W
      have hne : verd (dowF o (wordsB s)) 6 ≠ 1 := by
        intro h1
        have hv := verd_one _ 6 h1
        have := all6_of (fun i => fieldJ i (dowF o (wordsB s) i)) (fun i hi => by
          have := (field_plain i (dowF o (wordsB s) i)).2.1 (hv i hi)
          show (fieldJ i (dowF o (wordsB s) i)).isSome = true
          rw [this]; rfl)
        rw [hk] at this
        cases this
      simp only [bne_iff_ne, ne_eq]
      omega
set_option maxRecDepth 100000 in
set_option maxHeartbeats 4000000 in
theorem dow_law (o : Int) (s : ByteArray) (hs : s.size ≤ 2147483647) (w : World) (he : Hid (Errs w)) :
    Calls Tryz.prog 4 #[.int .i64 o, .string s] w fun e w' => e = .returned (.bool true) ∧ Below w.heap.size w w' := by
  have q1 : decide ((2147483647 : Int) < (s.size : Int)) = false := decide_eq_false (by omega)
  obtain ⟨o2, ho2⟩ : ∃ o2, bits .or .i64 o 128 = o2 := ⟨_, rfl⟩
  have HO2 := Lib.hid ho2
  have HW := Lib.hid (fun w => cronWords_any s (by omega) w)
  have HOP := Lib.hid (fun w => opts_any o2 w)
  have HPL := Lib.hid (fun w => plainText_any s (by omega) w)
  have HTK := Lib.hid (fun w => taken_any o2 w)
  obtain ⟨op, hop⟩ : ∃ op, optsO o2 = op := ⟨_, rfl⟩
  obtain ⟨ct, hct⟩ : ∃ ct, cntT (tkO o2) 6 = ct := ⟨_, rfl⟩
  have HOPT := Lib.hid hop
  have HCT := Lib.hid hct
  rw [hop] at HOP
  rw [hct] at HTK
  clear hop hct
  go_enter Tryz.func4, Tryz.ntmps4
  go_wp2_with fail
  refine (HW.out _).mono ?_
  rintro e1 w1 ⟨v1, rfl, hown, hb1⟩
  have HB1 := Lib.hid hb1
  clear hb1
  obtain ⟨n, hn⟩ : ∃ n, (wordsB s).length = n := ⟨_, rfl⟩
  have HN := Lib.hid hn
  rw [hn] at hown
  have hv1 : ∃ bo cap, v1 = .slice bo n cap := by
    rcases hown.2 with ⟨h, h0⟩ | ⟨g, cap, cur, h, -⟩
    · exact ⟨none, 0, by rw [h, h0]⟩
    · exact ⟨_, cap, h⟩
  obtain ⟨bo, cap, rfl⟩ := hv1
  clear hown hn
  go_wp2_with fail
  refine (HOP.out _).mono ?_
  rintro e2 w2 ⟨rfl, rfl⟩
  cases op with
  | false =>
    go_wp2_with fail
    go_ret
    exact ⟨rfl, HB1.out⟩
  | true =>
    go_wp2_with fail
    refine (HPL.out _).mono ?_
    rintro e2 w2 ⟨bp, rfl, hbp, rfl⟩
    cases bp with
    | false =>
      go_wp2_with fail
      go_ret
      exact ⟨rfl, HB1.out⟩
    | true =>
      have HP := Lib.hid (hbp rfl)
      clear hbp
      cases qn : ((n : Int) == 0) with
      | true =>
        go_wp2_with fail
        go_ret
        exact ⟨rfl, HB1.out⟩
      | false =>
        go_wp2_with fail
        refine (HTK.out _).mono ?_
        rintro e2 w2 ⟨rfl, hb2⟩
        have HB2 := Lib.hid (HB1.out.trans (hb2.mono HB1.out.size))
        clear hb2
        have hc6 : ct ≤ 6 := by rw [← HCT.out]; exact cnt_le _ _
        cases qm : ((n : Int) != (ct : Int) - 1) with
        | true =>
          go_wp2_with fail
          go_ret
          exact ⟨rfl, HB2.out⟩
        | false =>
          have hnn : (wordsB s).length + 1 = cntT (tkO o2) 6 := by
            rw [HN.out, HCT.out]
            have : (n : Int) = (ct : Int) - 1 := by simpa using qm
            omega
          have hne : wordsB s ≠ [] := by
            intro h
            have := HN.out
            rw [h] at this
            subst this
            simp at qn
          have hO : optsO (bits .or .i64 o 128) = true := by rw [HO2.out]; exact HOPT.out
          have hD : DowO o2 := by rw [← HO2.out]; exact dowO_put o hO
          have h7 : (bits .and .i64 o2 128 != 0) = true := by rw [← HO2.out]; exact put_dow o
          have h2 : (bits .and .i64 o2 2 != 0) = false := by
            have h3 := HOPT.out
            unfold optsO twoO at h3
            rw [h7] at h3
            simpa using (Bool.and_eq_true_iff.1 h3).2
          obtain ⟨a, b, c, d, e, f, ok, hp1, hp2, hf, hnN⟩ := dow_facts o2 hD h2 h7 s (s ++ ⟨#[32, 42]⟩) HP.out (by rw [ByteArray.data_append, Array.toList_append]) hne hnn
          have HP1 := Lib.hid hp1
          have HP2 := Lib.hid hp2
          have HFF := Lib.hid hf
          have HNN := Lib.hid hnN
          clear hp1 hp2 hf hnN hO hD h7 h2 hnn hne
          obtain ⟨V, hV⟩ : ∃ V, V = (implC a b c d e f).toArray := ⟨_, rfl⟩
          rw [← hV] at HP1 HP2
          have hVs : V.size = 8 := by rw [hV]; rfl
          have hVo : V.all (·.oneCell') = true := by rw [hV]; exact implC_one _ _ _ _ _ _
          have hVi : (Tryz.prog.info? 24).map (·.size) = some V.size := by rw [hVs]; exact infoSC
          have HV := Lib.hid hV
          clear hV
          go_wp2_with fail
          refine (HP1.out _ (Lib.hid (he.out.below HB2.out))).mono ?_
          rintro e3 w3 ⟨rfl, hb3⟩
          have HB3 := Lib.hid (HB2.out.trans (hb3.mono HB2.out.size))
          clear hb3
          have hVt : (w3.alloc (.cells #[.bool false, .int .i64 0, .int .u64 0, .int .u64 0, .int .u64 0, .int .u64 0, .int .u64 0, .int .u64 0] 24)).there w3.heap.size 0 V.size := by rw [hVs]; exact there_new _ _ _ _ _ rfl (by rfl)
          have HA := Lib.hid (HB3.out.alloc HB3.out.size (.cells #[.bool false, .int .i64 0, .int .u64 0, .int .u64 0, .int .u64 0, .int .u64 0, .int .u64 0, .int .u64 0] 24))
          have hX0 : w.heap.size ≤ w3.heap.size := HB3.out.size
          go_wp2_with (first | (refine wpList_store_mid rfl 24 (.tmp 6) (.tmp 41) rfl w3.heap.size 0 V rfl rfl hVt hVi hVo (stop_here ?_)))
          have HR1 : Hid (((w3.alloc (.cells #[.bool false, .int .i64 0, .int .u64 0, .int .u64 0, .int .u64 0, .int .u64 0, .int .u64 0, .int .u64 0] 24)).setCells w3.heap.size 0 V.toList).rangeAt w3.heap.size 0 V.toList) := Lib.hid (World.rangeAt_setCells_same _ _ 0 V.toList (by rw [Array.length_toList]; exact hVt))
          have HY1 : Hid (Below w.heap.size w ((w3.alloc (.cells #[.bool false, .int .i64 0, .int .u64 0, .int .u64 0, .int .u64 0, .int .u64 0, .int .u64 0, .int .u64 0] 24)).setCells w3.heap.size 0 V.toList)) := Lib.hid (below_setCells hX0 _ _ _ HA.out)
          generalize (w3.alloc _).setCells w3.heap.size 0 V.toList = Y1 at *
          obtain ⟨X1, hXn⟩ : ∃ X, X = w3.heap.size := ⟨_, rfl⟩
          rw [← hXn] at HR1 hX0 ⊢
          clear hXn hX0
          clear hVt HA
          unfold Stop
          go_wp2_with fail
          refine (HP2.out _ (Lib.hid (he.out.below HY1.out))).mono ?_
          rintro e4 w4 ⟨rfl, hb4⟩
          have HB4 := Lib.hid (HY1.out.trans (hb4.mono HY1.out.size))
          have HR1 := Lib.hid (rangeAt_below HR1.out hb4)
          have hlt4 : X1 < w4.heap.size := range_lt2 HR1.out (by rw [Array.length_toList, hVs]; omega)
          clear hb4
          have hVt : (w4.alloc (.cells #[.bool false, .int .i64 0, .int .u64 0, .int .u64 0, .int .u64 0, .int .u64 0, .int .u64 0, .int .u64 0] 24)).there w4.heap.size 0 V.size := by rw [hVs]; exact there_new _ _ _ _ _ rfl (by rfl)
          have HA := Lib.hid (HB4.out.alloc HB4.out.size (.cells #[.bool false, .int .i64 0, .int .u64 0, .int .u64 0, .int .u64 0, .int .u64 0, .int .u64 0, .int .u64 0] 24))
          have hX0 : w.heap.size ≤ w4.heap.size := HB4.out.size
          go_wp2_with (first | (refine wpList_store_mid rfl 24 (.tmp 8) (.tmp 48) rfl w4.heap.size 0 V rfl rfl hVt hVi hVo (stop_here ?_)))
          have HR2 : Hid (((w4.alloc (.cells #[.bool false, .int .i64 0, .int .u64 0, .int .u64 0, .int .u64 0, .int .u64 0, .int .u64 0, .int .u64 0] 24)).setCells w4.heap.size 0 V.toList).rangeAt w4.heap.size 0 V.toList) := Lib.hid (World.rangeAt_setCells_same _ _ 0 V.toList (by rw [Array.length_toList]; exact hVt))
          have HY2 : Hid (Below w.heap.size w ((w4.alloc (.cells #[.bool false, .int .i64 0, .int .u64 0, .int .u64 0, .int .u64 0, .int .u64 0, .int .u64 0, .int .u64 0] 24)).setCells w4.heap.size 0 V.toList)) := Lib.hid (below_setCells hX0 _ _ _ HA.out)
          have HR1 : Hid (((w4.alloc (.cells #[.bool false, .int .i64 0, .int .u64 0, .int .u64 0, .int .u64 0, .int .u64 0, .int .u64 0, .int .u64 0] 24)).setCells w4.heap.size 0 V.toList).rangeAt X1 0 V.toList) := Lib.hid (World.rangeAt_setCells_apart (World.rangeAt_alloc HR1.out _) _ _ _ (Or.inl (by omega)))
          generalize (w4.alloc _).setCells w4.heap.size 0 V.toList = Y2 at *
          obtain ⟨X2, hXn⟩ : ∃ X, X = w4.heap.size := ⟨_, rfl⟩
          rw [← hXn] at HR2 hX0 ⊢
          clear hXn hX0
          clear hVt HA
          unfold Stop
          go_wp2_with fail
          have HC1 : Hid (Y2.rangeAt X1 0 (implC a b c d e f)) := Lib.hid (by have := HR1.out; rw [HV.out] at this; exact this)
          have HC2 : Hid (Y2.rangeAt X2 0 (implC a b c d e f)) := Lib.hid (by have := HR2.out; rw [HV.out] at this; exact this)
          have HQ := eql_sched a b c d e f
          clear HR1 HR2 HV hVs hVo hVi
          cases ok with
          | true =>
            have hff := HFF.out rfl
            have HFv : Hid ((f : Int) = 9223372036854775935) := Lib.hid (by omega)
            have HAL := Lib.hid (fun W => implAll5 W)
            clear hff HFF HNN
            refine wp_region_held_drew (S := fun W => Hid (W.rangeAt X1 0 (implC a b c d e f) ∧ W.rangeAt X2 0 (implC a b c d e f) ∧ Below w.heap.size w W)) (by kernel_rfl) (Lib.hid ⟨by simpa using HC1.out, by simpa using HC2.out, Below.drew HY2.out⟩) (fun hHeld => ?_)
            refine wpAnyH_take (i := 0) (v := ?_) rfl (by kernel_rfl) (by kernel_rfl) (by kernel_rfl) (fun _ _ _ h => h) (Or.inl ⟨by rfl, ?_⟩) (by assumption) ?_
            rotate_left
            · (intro wx hSw; go_simp; (try with_reducible rfl))
            (try simp only [Array.toArray_toList, Act.put, List.getElem_toArray, List.getElem_cons_zero, List.getElem_cons_succ, List.setIfInBounds_toArray, List.set_cons_zero, List.set_cons_succ])
            refine wpAnyH_take (i := 1) (v := ?_) rfl (by kernel_rfl) (by kernel_rfl) (by kernel_rfl) (fun _ _ _ h => h) (Or.inl ⟨by rfl, ?_⟩) (by assumption) ?_
            rotate_left
            · (intro wx hSw; go_simp; (try with_reducible rfl))
            (try simp only [Array.toArray_toList, Act.put, List.getElem_toArray, List.getElem_cons_zero, List.getElem_cons_succ, List.setIfInBounds_toArray, List.set_cons_zero, List.set_cons_succ])
            refine wpAnyH_take (i := 2) (v := ?_) rfl (by kernel_rfl) (by kernel_rfl) (by kernel_rfl) (fun _ _ _ h => h) (Or.inl ⟨by rfl, ?_⟩) (by assumption) ?_
            rotate_left
            · (intro wx hSw; go_simp; (try with_reducible rfl))
            (try simp only [Array.toArray_toList, Act.put, List.getElem_toArray, List.getElem_cons_zero, List.getElem_cons_succ, List.setIfInBounds_toArray, List.set_cons_zero, List.set_cons_succ])
            refine wpAnyH_take (i := 3) (v := ?_) rfl (by kernel_rfl) (by kernel_rfl) (by kernel_rfl) (fun _ _ _ h => h) (Or.inl ⟨by rfl, ?_⟩) (by assumption) ?_
            rotate_left
            · (intro wx hSw; go_simp; (try with_reducible rfl))
            (try simp only [Array.toArray_toList, Act.put, List.getElem_toArray, List.getElem_cons_zero, List.getElem_cons_succ, List.setIfInBounds_toArray, List.set_cons_zero, List.set_cons_succ])
            refine wpAnyH_take (i := 4) (v := .agg (implC a b c d e f).toArray) rfl (by kernel_rfl) (by kernel_rfl) (by kernel_rfl) (fun _ _ _ h => h) (yieldsIf_load_mid (by rfl) 24 (.tmp 6) rfl X1 0 (by rfl) (implC a b c d e f) _ (fun W hW => hW.out.1) Tryz.underlying24 rfl infoSC) (by assumption) ?_
            (try simp only [Array.toArray_toList, Act.put, List.getElem_toArray, List.getElem_cons_zero, List.getElem_cons_succ, List.setIfInBounds_toArray, List.set_cons_zero, List.set_cons_succ])
            refine wpAnyH_take (i := 5) (v := .agg (implC a b c d e f).toArray) rfl (by kernel_rfl) (by kernel_rfl) (by kernel_rfl) (fun _ _ _ h => h) (yieldsIf_load_mid (by rfl) 24 (.tmp 8) rfl X2 0 (by rfl) (implC a b c d e f) _ (fun W hW => hW.out.2.1) Tryz.underlying24 rfl infoSC) (by assumption) ?_
            (try simp only [Array.toArray_toList, Act.put, List.getElem_toArray, List.getElem_cons_zero, List.getElem_cons_succ, List.setIfInBounds_toArray, List.set_cons_zero, List.set_cons_succ])
            refine wpAnyH_take (i := 6) (v := ?_) rfl (by kernel_rfl) (by kernel_rfl) (by kernel_rfl) (fun _ _ _ h => h) (Or.inl ⟨by rfl, ?_⟩) (by assumption) ?_
            rotate_left
            · (intro wx hSw; have HQ2 := HQ wx; go_simp; (try with_reducible rfl))
            (try simp only [Array.toArray_toList, Act.put, List.getElem_toArray, List.getElem_cons_zero, List.getElem_cons_succ, List.setIfInBounds_toArray, List.set_cons_zero, List.set_cons_succ])
            refine wpAnyH_take (i := 7) (v := ?_) rfl (by kernel_rfl) (by kernel_rfl) (by kernel_rfl) (fun _ _ _ h => h) (Or.inl ⟨by rfl, ?_⟩) (by assumption) ?_
            rotate_left
            · (intro wx hSw; go_simp; (try with_reducible rfl))
            (try simp only [Array.toArray_toList, Act.put, List.getElem_toArray, List.getElem_cons_zero, List.getElem_cons_succ, List.setIfInBounds_toArray, List.set_cons_zero, List.set_cons_succ])
            refine wpAnyH_take (i := 8) (v := ?_) rfl (by kernel_rfl) (by kernel_rfl) (by kernel_rfl) (fun _ _ _ h => h) (Or.inl ⟨by rfl, ?_⟩) (by assumption) ?_
            rotate_left
            · (intro wx hSw; go_simp; (try with_reducible rfl))
            (try simp only [Array.toArray_toList, Act.put, List.getElem_toArray, List.getElem_cons_zero, List.getElem_cons_succ, List.setIfInBounds_toArray, List.set_cons_zero, List.set_cons_succ])
            refine wpAnyH_take (i := 9) (v := ?_) rfl (by kernel_rfl) (by kernel_rfl) (by kernel_rfl) (fun _ _ _ h => h) (Or.inl ⟨by rfl, ?_⟩) (by assumption) ?_
            rotate_left
            · (intro wx hSw; go_simp; (try with_reducible rfl))
            (try simp only [Array.toArray_toList, Act.put, List.getElem_toArray, List.getElem_cons_zero, List.getElem_cons_succ, List.setIfInBounds_toArray, List.set_cons_zero, List.set_cons_succ])
            refine wpAnyH_take (i := 10) (v := ?_) rfl (by kernel_rfl) (by kernel_rfl) (by kernel_rfl) (fun _ _ _ h => h) (Or.inl ⟨by rfl, ?_⟩) (by assumption) ?_
            rotate_left
            · (intro wx hSw; go_simp; (try with_reducible rfl))
            (try simp only [Array.toArray_toList, Act.put, List.getElem_toArray, List.getElem_cons_zero, List.getElem_cons_succ, List.setIfInBounds_toArray, List.set_cons_zero, List.set_cons_succ])
            refine wpAnyH_take (i := 11) (v := ?_) rfl (by kernel_rfl) (by kernel_rfl) (by kernel_rfl) (fun _ _ _ h => h) (Or.inl ⟨by rfl, ?_⟩) (by assumption) ?_
            rotate_left
            · (intro wx hSw; go_simp; (try with_reducible rfl))
            (try simp only [Array.toArray_toList, Act.put, List.getElem_toArray, List.getElem_cons_zero, List.getElem_cons_succ, List.setIfInBounds_toArray, List.set_cons_zero, List.set_cons_succ])
            refine wpAnyH_take (i := 12) (v := ?_) rfl (by kernel_rfl) (by kernel_rfl) (by kernel_rfl) (fun _ _ _ h => h) (Or.inl ⟨by rfl, ?_⟩) (by assumption) ?_
            rotate_left
            · (intro wx hSw; go_simp; (try with_reducible rfl))
            (try simp only [Array.toArray_toList, Act.put, List.getElem_toArray, List.getElem_cons_zero, List.getElem_cons_succ, List.setIfInBounds_toArray, List.set_cons_zero, List.set_cons_succ])
            refine wpAnyH_take (i := 13) (v := ?_) rfl (by kernel_rfl) (by kernel_rfl) (by kernel_rfl) (fun _ _ _ h => h) (Or.inl ⟨by rfl, ?_⟩) (by assumption) ?_
            rotate_left
            · (intro wx hSw; have k7 : wx.cell? ⟨X1, 7, none⟩ = some (.int .u64 f) := hSw.out.1 7 _ rfl; go_simp; (try with_reducible rfl))
            (try simp only [Array.toArray_toList, Act.put, List.getElem_toArray, List.getElem_cons_zero, List.getElem_cons_succ, List.setIfInBounds_toArray, List.set_cons_zero, List.set_cons_succ])
            refine wpAnyH_ready (rs := [14]) (by kernel_rfl) (by simp) ?_
            refine AllReadyH.cons rfl (fun K hK => ?_) AllReadyH.nil
            go_simp
            go_at_call 16
            refine (HAL.out _).mono ?_
            rintro e9 w9 ⟨rfl, hb⟩
            refine hK.out _ _ (Lib.hid ⟨rangeAt_below hHeld.out.1 hb, rangeAt_below hHeld.out.2.1 hb, hHeld.out.2.2.trans (hb.mono hHeld.out.2.2.size)⟩) (fun hH2 => ?_)
            clear hK K hHeld hb
            have hHeld := hH2
            clear hH2
            (try simp only [Array.toArray_toList, Act.put, List.getElem_toArray, List.getElem_cons_zero, List.getElem_cons_succ, List.setIfInBounds_toArray, List.set_cons_zero, List.set_cons_succ])
            refine wpAnyH_take (i := 15) (v := ?_) rfl (by kernel_rfl) (by kernel_rfl) (by kernel_rfl) (fun _ _ _ h => h) (Or.inl ⟨by rfl, ?_⟩) (by assumption) ?_
            rotate_left
            · (intro wx hSw; have hFq := HFv.out; go_simp; (try with_reducible rfl))
            (try simp only [Array.toArray_toList, Act.put, List.getElem_toArray, List.getElem_cons_zero, List.getElem_cons_succ, List.setIfInBounds_toArray, List.set_cons_zero, List.set_cons_succ])
            refine wpAnyH_take (i := 16) (v := ?_) rfl (by kernel_rfl) (by kernel_rfl) (by kernel_rfl) (fun _ _ _ h => h) (Or.inl ⟨by rfl, ?_⟩) (by assumption) ?_
            rotate_left
            · (intro wx hSw; go_simp; (try with_reducible rfl))
            (try simp only [Array.toArray_toList, Act.put, List.getElem_toArray, List.getElem_cons_zero, List.getElem_cons_succ, List.setIfInBounds_toArray, List.set_cons_zero, List.set_cons_succ])
            refine wpAnyH_take (i := 17) (v := ?_) rfl (by kernel_rfl) (by kernel_rfl) (by kernel_rfl) (fun _ _ _ h => h) (Or.inl ⟨by rfl, ?_⟩) (by assumption) ?_
            rotate_left
            · (intro wx hSw; go_simp; (try with_reducible rfl))
            (try simp only [Array.toArray_toList, Act.put, List.getElem_toArray, List.getElem_cons_zero, List.getElem_cons_succ, List.setIfInBounds_toArray, List.set_cons_zero, List.set_cons_succ])
            refine wpAnyH_take (i := 18) (v := ?_) rfl (by kernel_rfl) (by kernel_rfl) (by kernel_rfl) (fun _ _ _ h => h) (Or.inl ⟨by rfl, ?_⟩) (by assumption) ?_
            rotate_left
            · (intro wx hSw; go_simp; (try with_reducible rfl))
            (try simp only [Array.toArray_toList, Act.put, List.getElem_toArray, List.getElem_cons_zero, List.getElem_cons_succ, List.setIfInBounds_toArray, List.set_cons_zero, List.set_cons_succ])
            refine wpAnyH_take (i := 19) (v := ?_) rfl (by kernel_rfl) (by kernel_rfl) (by kernel_rfl) (fun _ _ _ h => h) (Or.inl ⟨by rfl, ?_⟩) (by assumption) ?_
            rotate_left
            · (intro wx hSw; go_simp; (try with_reducible rfl))
            (try simp only [Array.toArray_toList, Act.put, List.getElem_toArray, List.getElem_cons_zero, List.getElem_cons_succ, List.setIfInBounds_toArray, List.set_cons_zero, List.set_cons_succ])
            refine wpAnyH_take (i := 20) (v := ?_) rfl (by kernel_rfl) (by kernel_rfl) (by kernel_rfl) (fun _ _ _ h => h) (Or.inl ⟨by rfl, ?_⟩) (by assumption) ?_
            rotate_left
            · (intro wx hSw; go_simp; (try with_reducible rfl))
            (try simp only [Array.toArray_toList, Act.put, List.getElem_toArray, List.getElem_cons_zero, List.getElem_cons_succ, List.setIfInBounds_toArray, List.set_cons_zero, List.set_cons_succ])
            refine wpAnyH_take (i := 21) (v := undef) rfl (by kernel_rfl) (by kernel_rfl) (by kernel_rfl) (fun _ _ _ h => h) (Or.inr ⟨by rfl, rfl⟩) (by assumption) ?_
            (try simp only [Array.toArray_toList, Act.put, List.getElem_toArray, List.getElem_cons_zero, List.getElem_cons_succ, List.setIfInBounds_toArray, List.set_cons_zero, List.set_cons_succ])
            refine wpAnyH_take (i := 22) (v := undef) rfl (by kernel_rfl) (by kernel_rfl) (by kernel_rfl) (fun _ _ _ h => h) (Or.inr ⟨by rfl, rfl⟩) (by assumption) ?_
            (try simp only [Array.toArray_toList, Act.put, List.getElem_toArray, List.getElem_cons_zero, List.getElem_cons_succ, List.setIfInBounds_toArray, List.set_cons_zero, List.set_cons_succ])
            refine wpAnyH_take (i := 23) (v := undef) rfl (by kernel_rfl) (by kernel_rfl) (by kernel_rfl) (fun _ _ _ h => h) (Or.inr ⟨by rfl, rfl⟩) (by assumption) ?_
            (try simp only [Array.toArray_toList, Act.put, List.getElem_toArray, List.getElem_cons_zero, List.getElem_cons_succ, List.setIfInBounds_toArray, List.set_cons_zero, List.set_cons_succ])
            refine wpAnyH_take (i := 24) (v := ?_) rfl (by kernel_rfl) (by kernel_rfl) (by kernel_rfl) (fun _ _ _ h => h) (Or.inl ⟨by rfl, ?_⟩) (by assumption) ?_
            rotate_left
            · (intro wx hSw; go_simp; (try with_reducible rfl))
            (try simp only [Array.toArray_toList, Act.put, List.getElem_toArray, List.getElem_cons_zero, List.getElem_cons_succ, List.setIfInBounds_toArray, List.set_cons_zero, List.set_cons_succ])
            refine wpAnyH_take (i := 25) (v := ?_) rfl (by kernel_rfl) (by kernel_rfl) (by kernel_rfl) (fun _ _ _ h => h) (Or.inl ⟨by rfl, ?_⟩) (by assumption) ?_
            rotate_left
            · (intro wx hSw; go_simp; (try with_reducible rfl))
            (try simp only [Array.toArray_toList, Act.put, List.getElem_toArray, List.getElem_cons_zero, List.getElem_cons_succ, List.setIfInBounds_toArray, List.set_cons_zero, List.set_cons_succ])
            refine wpAnyH_take (i := 26) (v := ?_) rfl (by kernel_rfl) (by kernel_rfl) (by kernel_rfl) (fun _ _ _ h => h) (Or.inl ⟨by rfl, ?_⟩) (by assumption) ?_
            rotate_left
            · (intro wx hSw; go_simp; (try with_reducible rfl))
            (try simp only [Array.toArray_toList, Act.put, List.getElem_toArray, List.getElem_cons_zero, List.getElem_cons_succ, List.setIfInBounds_toArray, List.set_cons_zero, List.set_cons_succ])
            refine wpAnyH_done (by kernel_rfl) ?_ _
            (try simp only [Array.toArray_toList, Act.put, List.getElem_toArray, List.getElem_cons_zero, List.getElem_cons_succ, List.setIfInBounds_toArray, List.set_cons_zero, List.set_cons_succ])
            go_wp2_with fail
            go_ret
            exact ⟨rfl, hHeld.out.2.2⟩
          | false =>
            have HNO := Lib.hid (HNN.out rfl)
            clear HFF HNN
            refine wp_region_held_drew (S := fun W => Hid (W.rangeAt X1 0 (implC a b c d e f) ∧ W.rangeAt X2 0 (implC a b c d e f) ∧ Below w.heap.size w W)) (by kernel_rfl) (Lib.hid ⟨by simpa using HC1.out, by simpa using HC2.out, Below.drew HY2.out⟩) (fun hHeld => ?_)
            refine wpAnyH_take (i := 0) (v := ?_) rfl (by kernel_rfl) (by kernel_rfl) (by kernel_rfl) (fun _ _ _ h => h) (Or.inl ⟨by rfl, ?_⟩) (by assumption) ?_
            rotate_left
            · (intro wx hSw; go_simp; (try with_reducible rfl))
            (try simp only [Array.toArray_toList, Act.put, List.getElem_toArray, List.getElem_cons_zero, List.getElem_cons_succ, List.setIfInBounds_toArray, List.set_cons_zero, List.set_cons_succ])
            refine wpAnyH_take (i := 1) (v := ?_) rfl (by kernel_rfl) (by kernel_rfl) (by kernel_rfl) (fun _ _ _ h => h) (Or.inl ⟨by rfl, ?_⟩) (by assumption) ?_
            rotate_left
            · (intro wx hSw; go_simp; (try with_reducible rfl))
            (try simp only [Array.toArray_toList, Act.put, List.getElem_toArray, List.getElem_cons_zero, List.getElem_cons_succ, List.setIfInBounds_toArray, List.set_cons_zero, List.set_cons_succ])
            refine wpAnyH_take (i := 2) (v := ?_) rfl (by kernel_rfl) (by kernel_rfl) (by kernel_rfl) (fun _ _ _ h => h) (Or.inl ⟨by rfl, ?_⟩) (by assumption) ?_
            rotate_left
            · (intro wx hSw; go_simp; (try with_reducible rfl))
            (try simp only [Array.toArray_toList, Act.put, List.getElem_toArray, List.getElem_cons_zero, List.getElem_cons_succ, List.setIfInBounds_toArray, List.set_cons_zero, List.set_cons_succ])
            refine wpAnyH_take (i := 3) (v := ?_) rfl (by kernel_rfl) (by kernel_rfl) (by kernel_rfl) (fun _ _ _ h => h) (Or.inl ⟨by rfl, ?_⟩) (by assumption) ?_
            rotate_left
            · (intro wx hSw; go_simp; (try with_reducible rfl))
            (try simp only [Array.toArray_toList, Act.put, List.getElem_toArray, List.getElem_cons_zero, List.getElem_cons_succ, List.setIfInBounds_toArray, List.set_cons_zero, List.set_cons_succ])
            refine wpAnyH_take (i := 4) (v := .agg (implC a b c d e f).toArray) rfl (by kernel_rfl) (by kernel_rfl) (by kernel_rfl) (fun _ _ _ h => h) (yieldsIf_load_mid (by rfl) 24 (.tmp 6) rfl X1 0 (by rfl) (implC a b c d e f) _ (fun W hW => hW.out.1) Tryz.underlying24 rfl infoSC) (by assumption) ?_
            (try simp only [Array.toArray_toList, Act.put, List.getElem_toArray, List.getElem_cons_zero, List.getElem_cons_succ, List.setIfInBounds_toArray, List.set_cons_zero, List.set_cons_succ])
            refine wpAnyH_take (i := 5) (v := .agg (implC a b c d e f).toArray) rfl (by kernel_rfl) (by kernel_rfl) (by kernel_rfl) (fun _ _ _ h => h) (yieldsIf_load_mid (by rfl) 24 (.tmp 8) rfl X2 0 (by rfl) (implC a b c d e f) _ (fun W hW => hW.out.2.1) Tryz.underlying24 rfl infoSC) (by assumption) ?_
            (try simp only [Array.toArray_toList, Act.put, List.getElem_toArray, List.getElem_cons_zero, List.getElem_cons_succ, List.setIfInBounds_toArray, List.set_cons_zero, List.set_cons_succ])
            refine wpAnyH_take (i := 6) (v := ?_) rfl (by kernel_rfl) (by kernel_rfl) (by kernel_rfl) (fun _ _ _ h => h) (Or.inl ⟨by rfl, ?_⟩) (by assumption) ?_
            rotate_left
            · (intro wx hSw; have HQ2 := HQ wx; go_simp; (try with_reducible rfl))
            (try simp only [Array.toArray_toList, Act.put, List.getElem_toArray, List.getElem_cons_zero, List.getElem_cons_succ, List.setIfInBounds_toArray, List.set_cons_zero, List.set_cons_succ])
            refine wpAnyH_take (i := 7) (v := ?_) rfl (by kernel_rfl) (by kernel_rfl) (by kernel_rfl) (fun _ _ _ h => h) (Or.inl ⟨by rfl, ?_⟩) (by assumption) ?_
            rotate_left
            · (intro wx hSw; go_simp; (try with_reducible rfl))
            (try simp only [Array.toArray_toList, Act.put, List.getElem_toArray, List.getElem_cons_zero, List.getElem_cons_succ, List.setIfInBounds_toArray, List.set_cons_zero, List.set_cons_succ])
            refine wpAnyH_take (i := 8) (v := ?_) rfl (by kernel_rfl) (by kernel_rfl) (by kernel_rfl) (fun _ _ _ h => h) (Or.inl ⟨by rfl, ?_⟩) (by assumption) ?_
            rotate_left
            · (intro wx hSw; go_simp; (try with_reducible rfl))
            (try simp only [Array.toArray_toList, Act.put, List.getElem_toArray, List.getElem_cons_zero, List.getElem_cons_succ, List.setIfInBounds_toArray, List.set_cons_zero, List.set_cons_succ])
            refine wpAnyH_take (i := 9) (v := ?_) rfl (by kernel_rfl) (by kernel_rfl) (by kernel_rfl) (fun _ _ _ h => h) (Or.inl ⟨by rfl, ?_⟩) (by assumption) ?_
            rotate_left
            · (intro wx hSw; go_simp; (try with_reducible rfl))
            (try simp only [Array.toArray_toList, Act.put, List.getElem_toArray, List.getElem_cons_zero, List.getElem_cons_succ, List.setIfInBounds_toArray, List.set_cons_zero, List.set_cons_succ])
            refine wpAnyH_take (i := 10) (v := ?_) rfl (by kernel_rfl) (by kernel_rfl) (by kernel_rfl) (fun _ _ _ h => h) (Or.inl ⟨by rfl, ?_⟩) (by assumption) ?_
            rotate_left
            · (intro wx hSw; go_simp; (try with_reducible rfl))
            (try simp only [Array.toArray_toList, Act.put, List.getElem_toArray, List.getElem_cons_zero, List.getElem_cons_succ, List.setIfInBounds_toArray, List.set_cons_zero, List.set_cons_succ])
            refine wpAnyH_take (i := 11) (v := ?_) rfl (by kernel_rfl) (by kernel_rfl) (by kernel_rfl) (fun _ _ _ h => h) (Or.inl ⟨by rfl, ?_⟩) (by assumption) ?_
            rotate_left
            · (intro wx hSw; go_simp; (try with_reducible rfl))
            (try simp only [Array.toArray_toList, Act.put, List.getElem_toArray, List.getElem_cons_zero, List.getElem_cons_succ, List.setIfInBounds_toArray, List.set_cons_zero, List.set_cons_succ])
            refine wpAnyH_take (i := 12) (v := undef) rfl (by kernel_rfl) (by kernel_rfl) (by kernel_rfl) (fun _ _ _ h => h) (Or.inr ⟨by rfl, rfl⟩) (by assumption) ?_
            (try simp only [Array.toArray_toList, Act.put, List.getElem_toArray, List.getElem_cons_zero, List.getElem_cons_succ, List.setIfInBounds_toArray, List.set_cons_zero, List.set_cons_succ])
            refine wpAnyH_take (i := 13) (v := undef) rfl (by kernel_rfl) (by kernel_rfl) (by kernel_rfl) (fun _ _ _ h => h) (Or.inr ⟨by rfl, rfl⟩) (by assumption) ?_
            (try simp only [Array.toArray_toList, Act.put, List.getElem_toArray, List.getElem_cons_zero, List.getElem_cons_succ, List.setIfInBounds_toArray, List.set_cons_zero, List.set_cons_succ])
            refine wpAnyH_take (i := 14) (v := undef) rfl (by kernel_rfl) (by kernel_rfl) (by kernel_rfl) (fun _ _ _ h => h) (Or.inr ⟨by rfl, rfl⟩) (by assumption) ?_
            (try simp only [Array.toArray_toList, Act.put, List.getElem_toArray, List.getElem_cons_zero, List.getElem_cons_succ, List.setIfInBounds_toArray, List.set_cons_zero, List.set_cons_succ])
            refine wpAnyH_take (i := 15) (v := undef) rfl (by kernel_rfl) (by kernel_rfl) (by kernel_rfl) (fun _ _ _ h => h) (Or.inr ⟨by rfl, rfl⟩) (by assumption) ?_
            (try simp only [Array.toArray_toList, Act.put, List.getElem_toArray, List.getElem_cons_zero, List.getElem_cons_succ, List.setIfInBounds_toArray, List.set_cons_zero, List.set_cons_succ])
            refine wpAnyH_take (i := 16) (v := ?_) rfl (by kernel_rfl) (by kernel_rfl) (by kernel_rfl) (fun _ _ _ h => h) (Or.inl ⟨by rfl, ?_⟩) (by assumption) ?_
            rotate_left
            · (intro wx hSw; go_simp; (try with_reducible rfl))
            (try simp only [Array.toArray_toList, Act.put, List.getElem_toArray, List.getElem_cons_zero, List.getElem_cons_succ, List.setIfInBounds_toArray, List.set_cons_zero, List.set_cons_succ])
            refine wpAnyH_take (i := 17) (v := ?_) rfl (by kernel_rfl) (by kernel_rfl) (by kernel_rfl) (fun _ _ _ h => h) (Or.inl ⟨by rfl, ?_⟩) (by assumption) ?_
            rotate_left
            · (intro wx hSw; go_simp; (try with_reducible rfl))
            (try simp only [Array.toArray_toList, Act.put, List.getElem_toArray, List.getElem_cons_zero, List.getElem_cons_succ, List.setIfInBounds_toArray, List.set_cons_zero, List.set_cons_succ])
            refine wpAnyH_take (i := 18) (v := ?_) rfl (by kernel_rfl) (by kernel_rfl) (by kernel_rfl) (fun _ _ _ h => h) (Or.inl ⟨by rfl, ?_⟩) (by assumption) ?_
            rotate_left
            · (intro wx hSw; go_simp; (try with_reducible rfl))
            (try simp only [Array.toArray_toList, Act.put, List.getElem_toArray, List.getElem_cons_zero, List.getElem_cons_succ, List.setIfInBounds_toArray, List.set_cons_zero, List.set_cons_succ])
            refine wpAnyH_take (i := 19) (v := ?_) rfl (by kernel_rfl) (by kernel_rfl) (by kernel_rfl) (fun _ _ _ h => h) (Or.inl ⟨by rfl, ?_⟩) (by assumption) ?_
            rotate_left
            · (intro wx hSw; go_simp; (try with_reducible rfl))
            (try simp only [Array.toArray_toList, Act.put, List.getElem_toArray, List.getElem_cons_zero, List.getElem_cons_succ, List.setIfInBounds_toArray, List.set_cons_zero, List.set_cons_succ])
            refine wpAnyH_take (i := 20) (v := ?_) rfl (by kernel_rfl) (by kernel_rfl) (by kernel_rfl) (fun _ _ _ h => h) (Or.inl ⟨by rfl, ?_⟩) (by assumption) ?_
            rotate_left
            · (intro wx hSw; go_simp; (try with_reducible rfl))
            (try simp only [Array.toArray_toList, Act.put, List.getElem_toArray, List.getElem_cons_zero, List.getElem_cons_succ, List.setIfInBounds_toArray, List.set_cons_zero, List.set_cons_succ])
            refine wpAnyH_take (i := 21) (v := ?_) rfl (by kernel_rfl) (by kernel_rfl) (by kernel_rfl) (fun _ _ _ h => h) (Or.inl ⟨by rfl, ?_⟩) (by assumption) ?_
            rotate_left
            · (intro wx hSw; go_simp; (try with_reducible rfl))
            (try simp only [Array.toArray_toList, Act.put, List.getElem_toArray, List.getElem_cons_zero, List.getElem_cons_succ, List.setIfInBounds_toArray, List.set_cons_zero, List.set_cons_succ])
            refine wpAnyH_take (i := 22) (v := ?_) rfl (by kernel_rfl) (by kernel_rfl) (by kernel_rfl) (fun _ _ _ h => h) (Or.inl ⟨by rfl, ?_⟩) (by assumption) ?_
            rotate_left
            · (intro wx hSw; go_simp; (try with_reducible rfl))
            (try simp only [Array.toArray_toList, Act.put, List.getElem_toArray, List.getElem_cons_zero, List.getElem_cons_succ, List.setIfInBounds_toArray, List.set_cons_zero, List.set_cons_succ])
            refine wpAnyH_ready (rs := [23]) (by kernel_rfl) (by simp) ?_
            refine AllReadyH.cons rfl (fun K hK => ?_) AllReadyH.nil
            go_simp
            go_at_call 17
            refine (HNO.out _).mono ?_
            rintro e9 w9 ⟨rfl, hb⟩
            refine hK.out _ _ (Lib.hid ⟨rangeAt_below hHeld.out.1 hb, rangeAt_below hHeld.out.2.1 hb, hHeld.out.2.2.trans (hb.mono hHeld.out.2.2.size)⟩) (fun hH2 => ?_)
            clear hK K hHeld hb
            have hHeld := hH2
            clear hH2
            (try simp only [Array.toArray_toList, Act.put, List.getElem_toArray, List.getElem_cons_zero, List.getElem_cons_succ, List.setIfInBounds_toArray, List.set_cons_zero, List.set_cons_succ])
            refine wpAnyH_take (i := 24) (v := ?_) rfl (by kernel_rfl) (by kernel_rfl) (by kernel_rfl) (fun _ _ _ h => h) (Or.inl ⟨by rfl, ?_⟩) (by assumption) ?_
            rotate_left
            · (intro wx hSw; go_simp; (try with_reducible rfl))
            (try simp only [Array.toArray_toList, Act.put, List.getElem_toArray, List.getElem_cons_zero, List.getElem_cons_succ, List.setIfInBounds_toArray, List.set_cons_zero, List.set_cons_succ])
            refine wpAnyH_take (i := 25) (v := ?_) rfl (by kernel_rfl) (by kernel_rfl) (by kernel_rfl) (fun _ _ _ h => h) (Or.inl ⟨by rfl, ?_⟩) (by assumption) ?_
            rotate_left
            · (intro wx hSw; go_simp; (try with_reducible rfl))
            (try simp only [Array.toArray_toList, Act.put, List.getElem_toArray, List.getElem_cons_zero, List.getElem_cons_succ, List.setIfInBounds_toArray, List.set_cons_zero, List.set_cons_succ])
            refine wpAnyH_take (i := 26) (v := ?_) rfl (by kernel_rfl) (by kernel_rfl) (by kernel_rfl) (fun _ _ _ h => h) (Or.inl ⟨by rfl, ?_⟩) (by assumption) ?_
            rotate_left
            · (intro wx hSw; go_simp; (try with_reducible rfl))
            (try simp only [Array.toArray_toList, Act.put, List.getElem_toArray, List.getElem_cons_zero, List.getElem_cons_succ, List.setIfInBounds_toArray, List.set_cons_zero, List.set_cons_succ])
            refine wpAnyH_done (by kernel_rfl) ?_ _
            (try simp only [Array.toArray_toList, Act.put, List.getElem_toArray, List.getElem_cons_zero, List.getElem_cons_succ, List.setIfInBounds_toArray, List.set_cons_zero, List.set_cons_succ])
            go_wp2_with fail
            go_ret
            exact ⟨rfl, hHeld.out.2.2⟩
theorem law_dow (a0 : Int) (a1 : ByteArray) (w0 : (Lit.int .i64 a0).wf = true) (w1 : a1.size ≤ maxLen) (w : World) (he : Hid (Errs w)) :
    Calls Tryz.prog 4 #[.int .i64 a0, .string a1] w fun e w' => e = .returned (.bool true) ∧ Below w.heap.size w w' := by
  by_cases h : a1.size ≤ 2147483647
  · exact dow_law a0 a1 h w he
  · have q1 : decide ((2147483647 : Int) < (a1.size : Int)) = true := decide_eq_true (by omega)
    clear h
    go_enter Tryz.func4, Tryz.ntmps4
    go_wp2_with fail
    go_ret
    exact ⟨rfl, Below.refl _ _⟩
end Go.Proofs.YtkhggefbkhdimaaGreatDoor
