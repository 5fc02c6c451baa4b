/- spec.cronPlain, CronParse, laws.cronMeansNothing of a plain text without the optional day of the week: the verdict. -/
import Derived.Test.YtkhggefbkhdimaaGreatDoorFeR
import Derived.Test.YtkhggefbkhdimaaGreatDoorFeJ
import Derived.Test.YtkhggefbkhdimaaGreatDoorFeN
import Derived.Test.YtkhggefbkhdimaaGreatDoorGFo
namespace Go.Proofs.YtkhggefbkhdimaaGreatDoor
open Go.RowKit Go.Shelf
set_option linter.unusedVariables false
set_option linter.unusedSimpArgs false

theorem infoCM : (Tryz.prog.info? 89).map (·.size) = some 387 := by kernel_rfl
theorem str_empty_size (s : ByteArray) (h : s.toList.isEmpty = true) : s.size = 0 := by
  rw [List.isEmpty_iff] at h
  have := congrArg List.length h
  rw [Lib.toList_data] at this
  rw [← str_len]
  simpa using this
/-- A store of a whole variable; what it asks is shown behind it. -/
theorem store_later {P : Program} {ops : Array Oper} {rest : List Oper} {op : Oper} {a : Act} {w : World} {Q : Exit → Act → World → Prop} (hgd : op.guard = none) (ty : TypeId) (x y : Operand) (ho : op.op = .store ty x y)
    (b o : Nat) (arr : Array Value) (hx : a.eval x = .pointer (some ⟨b, o, none⟩)) (hy : a.eval y = .agg arr)
    (h : Stop (w.there b o arr.size ∧ (P.info? ty).map (·.size) = some arr.size ∧ arr.all (·.oneCell') = true ∧ wpList P ops Q rest (a.put op.dst undef) (w.setCells b o arr.toList))) : wpList P ops Q (op :: rest) a w :=
  wpList_store_mid hgd ty x y ho b o arr hx hy h.1 h.2.1 h.2.2.1 h.2.2.2
theorem put_fold (k : Nat) : ∀ (L : List (Value × Nat)) (Z : Array Value), Z.all (·.oneCell') = true → (∀ p ∈ L, p.1.oneCell' = true) → (L.foldl (fun cs x => cs.setIfInBounds (k + x.2) x.1) Z).size = Z.size ∧ (L.foldl (fun cs x => cs.setIfInBounds (k + x.2) x.1) Z).all (·.oneCell') = true
  | [], Z, h, _ => ⟨rfl, h⟩
  | p :: L, Z, h, hp => by
    have h2 : (Z.setIfInBounds (k + p.2) p.1).all (·.oneCell') = true := by
      rw [Array.all_eq_true_iff_forall_mem] at h ⊢
      intro v hv
      rcases Array.mem_or_eq_of_mem_setIfInBounds hv with h1 | h1
      · exact h v h1
      · subst h1; exact hp p (List.mem_cons_self ..)
    have := put_fold k L (Z.setIfInBounds (k + p.2) p.1) h2 (fun q hq => hp q (List.mem_cons_of_mem _ hq))
    simp only [List.foldl_cons]
    exact ⟨by rw [this.1]; simp, this.2⟩
theorem put_foldA (k n : Nat) (V Z : Array Value) (hn : V.size = n) (hZ : Z.all (·.oneCell') = true) (hV : V.all (·.oneCell') = true) :
    (Array.foldl (fun cs x => cs.setIfInBounds (k + x.snd) x.fst) Z V.zipIdx 0 n).size = Z.size ∧ (Array.foldl (fun cs x => cs.setIfInBounds (k + x.snd) x.fst) Z V.zipIdx 0 n).all (·.oneCell') = true := by
  have hs : V.zipIdx.size = n := by simp [hn]
  rw [← hs, ← Array.foldl_toList]
  refine put_fold k _ Z hZ (fun p hp => ?_)
  rw [Array.all_eq_true_iff_forall_mem] at hV
  have hp2 : p ∈ V.zipIdx := Array.mem_toList_iff.1 hp
  exact hV p.1 (Array.fst_mem_of_mem_zipIdx hp2)
/-- A meaning of some cells, and the verdict n. -/
def MeanR (n : Nat) (w : World) (e : Ending) (w' : World) : Prop := ∃ M : Array Value, e = .returned (.tuple #[.agg M, .int .i64 n]) ∧ M.size = 387 ∧ M.all (·.oneCell') = true ∧ Below w.heap.size w w'
def MeanIs (o : Int) (s : ByteArray) (n : Nat) : Prop := ∀ W : World, Calls Tryz.prog 79 #[.int .i64 o, .string s] W (MeanR n W)
def ParseIs (o : Int) (s : ByteArray) (n : Nat) : Prop := ∀ W : World, Calls Tryz.prog 45 #[.int .i64 o, .string s] W (MeanR n W)
set_option maxRecDepth 100000 in
set_option maxHeartbeats 4000000 in
theorem cronParse_any (o : Int) (s : ByteArray) (hs : PlainT s) (h0 : s.size ≠ 0) (n : Nat) (HP : Hid (MeanIs o s n)) : ParseIs o s n := by
  intro w
  have hsz := hs.size
  have HZ := Lib.hid (fun w => zone_any s (by omega) w)
  rw [hs.tz, hs.cron, show zoneK false false = 0 from rfl] at HZ
  have q0 : s.toList.isEmpty = false := by
    cases hq : s.toList.isEmpty with
    | false => rfl
    | true => exact absurd (str_empty_size s hq) h0
  clear h0 hs
  go_enter Tryz.func45, Tryz.ntmps45
  go_wp2_with fail
  have HT2 : Hid ((w.alloc (.cells Tryz.zeroCells89 89)).there w.heap.size 0 387) := Lib.hid (there_new _ _ _ _ _ rfl (by kernel_rfl))
  have HB2 : Hid (Below w.heap.size w (w.alloc (.cells Tryz.zeroCells89 89))) := Lib.hid (Below.alloc (Below.refl _ _) (Nat.le_refl _) _)
  refine (HZ.out _).mono ?_
  rintro e w' ⟨rfl, rfl⟩
  go_wp2_with fail
  refine (HP.out _).mono ?_
  rintro e w3 ⟨V, rfl, hVs, hVo, hb⟩
  have hVt : w3.there w.heap.size 0 V.size := by rw [hVs]; exact there_below HT2.out ⟨hb.os, hb.tape, hb.output, hb.size, hb.block⟩
  have hVi : (Tryz.prog.info? 89).map (·.size) = some V.size := by rw [hVs]; exact infoCM
  have HB3 := Lib.hid (HB2.out.trans (hb.mono HB2.out.size))
  clear hb
  go_wp2_with (first | (refine wpList_store_mid rfl 89 (.tmp 4) (.tmp 23) rfl w.heap.size 0 V rfl rfl hVt hVi hVo ?_))
  have hfin : (w3.setCells w.heap.size 0 V.toList).rangeAt w.heap.size 0 V.toList := World.rangeAt_setCells_same w3 w.heap.size 0 V.toList (by rw [Array.length_toList]; exact hVt)
  have hbel : Below w.heap.size w (w3.setCells w.heap.size 0 V.toList) := below_setCells (Nat.le_refl _) _ _ _ HB3.out
  refine bodyPost_ret (v := .tuple #[.agg V, .int .i64 n]) ?_ rfl ⟨V, rfl, hVs, hVo, hbel⟩
  generalize w3.setCells w.heap.size 0 _ = W9 at hfin ⊢
  have hlv := run_loadVar_mid (P := Tryz.prog) W9 w.heap.size 0 89 V.toList _ hfin Tryz.underlying89 rfl (by rw [Array.length_toList]; exact hVi)
  simp [results, Tryz.results45, Act.put, Sem.run_bind, asAddr, hlv]
set_option maxRecDepth 100000 in
set_option maxHeartbeats 4000000 in
theorem meansNothing_any (o : Int) (s : ByteArray) (n : Nat) (b : Bool) (hb0 : ((n : Int) != 1) = b) (HP : Hid (ParseIs o s n)) (w : World) :
    Calls Tryz.prog 17 #[.int .i64 o, .string s] w fun e w' => e = .returned (.bool b) ∧ Below w.heap.size w w' := by
  go_enter Tryz.func17, Tryz.ntmps17
  go_wp2_with fail
  refine (HP.out _).mono ?_
  rintro e w3 ⟨V, rfl, hVs, hVo, hb⟩
  have hbs := hb.size
  have HB3 := Lib.hid (hb.alloc hb.size (.cells Tryz.zeroCells89 89))
  clear hb
  have hVt : (w3.alloc (.cells Tryz.zeroCells89 89)).there w3.heap.size 0 V.size := by rw [hVs]; exact there_new _ _ _ _ _ rfl (by kernel_rfl)
  have hVi : (Tryz.prog.info? 89).map (·.size) = some V.size := by rw [hVs]; exact infoCM
  have hle : w.heap.size ≤ w3.heap.size := hbs
  go_wp2_with (first | (refine wpList_store_mid rfl 89 (.tmp 5) (.tmp 11) rfl w3.heap.size 0 V rfl rfl hVt hVi hVo (stop_here ?_)))
  have HB4 : Hid (Below w.heap.size w ((w3.alloc (.cells Tryz.zeroCells89 89)).setCells w3.heap.size 0 V.toList)) := Lib.hid (below_setCells hle _ _ _ HB3.out)
  generalize (w3.alloc _).setCells w3.heap.size 0 V.toList = W9 at HB4 ⊢
  unfold Stop
  go_wp2_with fail
  go_ret
  exact ⟨rfl, HB4.out⟩
set_option maxRecDepth 100000 in
set_option maxHeartbeats 4000000 in
theorem cronPlain_any (o : Int) (h2 : (bits .and .i64 o 2 != 0) = false) (h7 : (bits .and .i64 o 128 != 0) = true) (h5 : tkO o 5 = true) (s : ByteArray) (hs : PlainT s) (hl : wordsB s ≠ []) (hn : (wordsB s).length + 1 = cntT (tkO o) 6) : MeanIs o s (verd (dowF o (wordsB s)) 6) := by
  intro w
  have hsz := hs.size
  have HBG := Lib.hid (fun w => begins_any s ⟨#[64]⟩ (by omega) (by decide) w)
  rw [show (⟨#[64]⟩ : ByteArray).data.toList = [64] from rfl, hs.at_] at HBG
  have HFO := Lib.hid (fun w => foreign_any s (by omega) w)
  have hasc : asciiB s.data.toList = true := hs.ascii
  rw [hasc] at HFO
  have HW := Lib.hid (fun w => cronWords_any s (by omega) w)
  have HFI := Lib.hid (fun v w hsl => fill_dow o h2 h7 v (wordsB s) w hsl hl hn h5)
  have HE := Lib.hid (fill_exp (tkO o) (wordsB s) hn h5)
  have HS6 := Lib.hid (fun G w hc => six_any (dowF o (wordsB s)) (fun i => dowF_size o s hsz i) G w hc)
  have HDF : Hid (∀ i, i < 6 → (fillE (tkO o) (wordsB s) 6).getD i noStr = mkB (dowF o (wordsB s) i)) := Lib.hid (fun i hi => by rw [HE.out, dowF, mkB_back])
  generalize hv : verd (dowF o (wordsB s)) 6 = vd at *
  go_enter Tryz.func79, Tryz.ntmps79
  go_wp2_with fail
  have HT2 : Hid ((w.alloc (.cells Tryz.zeroCells89 89)).there w.heap.size 0 387) := Lib.hid (there_new _ _ _ _ _ rfl (by kernel_rfl))
  have HB2 : Hid (Below w.heap.size w (w.alloc (.cells Tryz.zeroCells89 89))) := Lib.hid (Below.alloc (Below.refl _ _) (Nat.le_refl _) _)
  refine (HBG.out _).mono ?_
  rintro e w' ⟨rfl, rfl⟩
  go_wp2_with fail
  refine (HFO.out _).mono ?_
  rintro e w' ⟨rfl, rfl⟩
  go_wp2_with fail
  refine (HW.out _).mono ?_
  rintro e w3 ⟨v, rfl, hown, hb⟩
  have HB3 := Lib.hid (HB2.out.trans (hb.mono HB2.out.size))
  have HT3 := Lib.hid (there_below HT2.out ⟨hb.os, hb.tape, hb.output, hb.size, hb.block⟩)
  have hlen : (wordsB s).length ≠ 0 := fun h => hl (List.length_eq_zero_iff.1 h)
  obtain ⟨g, cap, rfl, hc1, hm1, hcell1⟩ := own_open hown hl
  have HSL : Hid (SlOf RStr 1 w3 (.slice (some ⟨g, 0, none⟩) (wordsB s).length cap) (wordsB s)) := Lib.hid (by
    refine ⟨_, cap, rfl, fun i x hi => ⟨g, 0, [.string x], rfl, rfl, fun j u hj => ?_, rfl⟩⟩
    have hil := (List.getElem?_eq_some_iff.1 hi).1
    have := hcell1 i hil
    rcases j with _ | j
    · have e := Option.some.inj hj
      subst e
      simp only [Nat.zero_add, Nat.mul_one, Nat.add_zero]
      rw [this]
      simp only [List.getD, hi, Option.getD_some]
    · simp at hj)
  clear hb hown hcell1
  go_wp2_with fail
  refine (HFI.out _ _ HSL.out).mono ?_
  rintro e w4 ⟨G, rfl, hG, ho, hb⟩
  have HB4 := Lib.hid (HB3.out.trans (hb.mono HB3.out.size))
  have HT4 := Lib.hid (there_below HT3.out ⟨hb.os, hb.tape, hb.output, hb.size, hb.block⟩)
  have HC4 : Hid (∀ i, i < 6 → w4.cell? ⟨G, i, none⟩ = some (.string (mkB (dowF o (wordsB s) i)))) := Lib.hid (fun i hi => by
    rw [ho.cellAt i (by omega)]
    have h6 : i < (fillE (tkO o) (wordsB s) 6).length := by rw [fillE_len]; exact hi
    rw [← HDF.out i hi]
    simp only [strsV, List.getD, List.getElem?_map, List.getElem?_eq_getElem h6, Option.map_some, Option.getD_some])
  clear hb ho
  have q3 : (((wordsB s).length : Int) == 0) = false := by simp only [beq_eq_false_iff_ne]; omega
  go_wp2_with fail
  refine (HS6.out G _ HC4.out).mono ?_
  rintro e w5 ⟨V, rfl, hVs, hVo, hb⟩
  have hbs := hb.size
  have HB5 := Lib.hid (HB4.out.trans (hb.mono HB4.out.size))
  have HT5 := Lib.hid (there_below HT4.out ⟨hb.os, hb.tape, hb.output, hb.size, hb.block⟩)
  have HB5a := Lib.hid (HB5.out.alloc HB5.out.size (.cells Tryz.zeroCells30 30))
  have hVt : (w5.alloc (.cells Tryz.zeroCells30 30)).there w5.heap.size 0 V.size := by rw [hVs]; exact there_new _ _ _ _ _ rfl (by kernel_rfl)
  have HT5a : Hid ((w5.alloc (.cells Tryz.zeroCells30 30)).there w.heap.size 0 387) := Lib.hid (World.there_alloc HT5.out _)
  have hVi : (Tryz.prog.info? 30).map (·.size) = some V.size := by rw [hVs]; exact infoCF
  have hle : w.heap.size ≤ w5.heap.size := HB5.out.size
  clear hb
  go_wp2_with (first | (refine wpList_store_mid rfl 30 (.tmp 9) (.tmp 42) rfl w5.heap.size 0 V rfl rfl hVt hVi hVo (stop_here ?_)))
  have HB6 : Hid (Below w.heap.size w ((w5.alloc (.cells Tryz.zeroCells30 30)).setCells w5.heap.size 0 V.toList)) := Lib.hid (below_setCells hle _ _ _ HB5a.out)
  have HT6 : Hid (((w5.alloc (.cells Tryz.zeroCells30 30)).setCells w5.heap.size 0 V.toList).there w.heap.size 0 387) := Lib.hid (World.there_setCells HT5a.out _ _ _)
  have HR6 : Hid (((w5.alloc (.cells Tryz.zeroCells30 30)).setCells w5.heap.size 0 V.toList).rangeAt w5.heap.size 0 V.toList) := Lib.hid (World.rangeAt_setCells_same _ _ 0 V.toList (by rw [Array.length_toList]; exact hVt))
  generalize (w5.alloc _).setCells w5.heap.size 0 V.toList = W6 at HB6 HT6 HR6 ⊢
  clear HB5a HT5a hVt HB5 HT5
  unfold Stop
  go_wp2_with (first | (refine wpList_load_mid rfl 30 (.tmp 9) rfl w5.heap.size 0 (by first | rfl | simp [Act.eval]) V.toList _ HR6.out Tryz.underlying30 rfl (infoCF.trans (by rw [Array.length_toList, hVs])) (stop_here ?_)))
  rw [Array.toArray_toList]
  have HM := put_foldA 2 384 V Tryz.zeroCells89 hVs (by kernel_rfl) hVo
  have HMs : Hid ((Array.foldl (fun cs x => cs.setIfInBounds (2 + x.snd) x.fst) Tryz.zeroCells89 V.zipIdx 0 384).size = 387) := Lib.hid (HM.1.trans (by kernel_rfl))
  have HMo := Lib.hid HM.2
  clear HM
  unfold Stop
  go_wp2_with (first | (refine store_later rfl 89 (.tmp 4) (.tmp 45) rfl w.heap.size 0 _ rfl rfl ?_))
  unfold Stop
  have hMs := HMs.out
  have hMo := HMo.out
  clear HMs HMo
  generalize Array.foldl (fun cs x => cs.setIfInBounds (2 + x.snd) x.fst) Tryz.zeroCells89 V.zipIdx 0 384 = M at *
  have hMt : W6.there w.heap.size 0 M.size := by rw [hMs]; exact HT6.out
  have hMi : (Tryz.prog.info? 89).map (·.size) = some M.size := by rw [hMs]; exact infoCM
  refine ⟨hMt, by simpa using hMi, by simpa using hMo, ?_⟩
  have hfin : (W6.setCells w.heap.size 0 M.toList).rangeAt w.heap.size 0 M.toList := World.rangeAt_setCells_same W6 w.heap.size 0 M.toList (by rw [Array.length_toList]; exact hMt)
  have hbel : Below w.heap.size w (W6.setCells w.heap.size 0 M.toList) := below_setCells (Nat.le_refl _) _ _ _ HB6.out
  have HMs := Lib.hid hMs
  clear hMs
  go_wp2_with fail
  refine bodyPost_ret (v := .tuple #[.agg M, .int .i64 vd]) ?_ rfl ⟨M, rfl, HMs.out, hMo, hbel⟩
  generalize W6.setCells w.heap.size 0 _ = W9 at hfin ⊢
  have hlv := run_loadVar_mid (P := Tryz.prog) W9 w.heap.size 0 89 M.toList _ hfin Tryz.underlying89 rfl (by rw [Array.length_toList]; exact hMi)
  simp [results, Tryz.results79, Act.put, Sem.run_bind, asAddr, hlv]
end Go.Proofs.YtkhggefbkhdimaaGreatDoor
