/- impl.CronDayMatches over zones; spec.CronOffset, spec.CronCivil. -/
import Derived.Test.YtpgclepiagfgfaaTzG
import Derived.Deep.QuietTactic
import Derived.BigQuiet
namespace Go.Proofs.Ytpgclepiagfgfaa
open Go.RowKit
set_option linter.unusedVariables false
set_option linter.unusedSimpArgs false

/-- The offset of a zone at a second. -/
def OffP (offs : List Int) (dsts : List Bool) (whens idxs : List Int) (sec off : Int) : Prop :=
  (offs = [] → off = 0) ∧ (0 < offs.length → OffIs (offs.zip dsts) (whens.zip idxs) sec off)
theorem ZOk.first {offs : List Int} {dsts : List Bool} {whens idxs : List Int} (h : ZOk offs dsts whens idxs) {sec : Int} (hs : -9223372036854775808 ≤ sec) : ∀ t : Int × Int, (whens.zip idxs)[0]? = some t → t.1 ≤ sec := by
  intro t ht
  have h1 := (zip_at ht).1
  rcases h with ⟨_, _, rfl, _⟩ | ⟨_, _, _, _, _, _, h6, _⟩
  · simp at h1
  · rw [h6] at h1
    have := Option.some.inj h1
    omega
theorem ZOk.off {offs : List Int} {dsts : List Bool} {whens idxs : List Int} (h : ZOk offs dsts whens idxs) {sec off : Int} (ho : OffP offs dsts whens idxs sec off) : -86400 ≤ off ∧ off ≤ 86400 := by
  rcases h with ⟨rfl, _⟩ | ⟨h0, _, _, _, _, _, _, h7, _⟩
  · rw [ho.1 rfl]; omega
  · obtain ⟨j, wn, ix, d, k1, k2, k3, k4⟩ := ho.2 h0
    exact h7 _ (List.mem_of_getElem? (zip_at k4).1)
theorem ZOk.pos {offs : List Int} {dsts : List Bool} {whens idxs : List Int} (h : ZOk offs dsts whens idxs) (hp : 0 < offs.length) : 0 < (whens.zip idxs).length := by
  rcases h with ⟨rfl, _⟩ | ⟨h0, _, _, h3, _, h5, _⟩
  · simp at hp
  · rw [List.length_zip]; omega
/-- The offset so far, behind k transitions. -/
def OffK (zs : List (Int × Bool)) (ts : List (Int × Int)) (sec : Int) (k : Nat) (o : Int) : Prop :=
  (k = 0 ∧ o = 0) ∨ ∃ (j : Nat) (wn ix : Int) (d : Bool), j < k ∧ ts[j]? = some (wn, ix) ∧ wn ≤ sec ∧ (∀ (i : Nat) (t : Int × Int), j < i → i < k → ts[i]? = some t → sec < t.1) ∧ zs[ix.toNat]? = some (o, d)
theorem OffK.yes {zs : List (Int × Bool)} {ts : List (Int × Int)} {sec : Int} {k : Nat} {wn ix o : Int} {d : Bool} (h1 : ts[k]? = some (wn, ix)) (h2 : wn ≤ sec) (h3 : zs[ix.toNat]? = some (o, d)) : OffK zs ts sec (k + 1) o :=
  Or.inr ⟨k, wn, ix, d, by omega, h1, h2, fun i t a b => by omega, h3⟩
theorem OffK.no {zs : List (Int × Bool)} {ts : List (Int × Int)} {sec : Int} {k : Nat} {o : Int} {t0 : Int × Int} (h : OffK zs ts sec k o) (hf : ∀ t : Int × Int, ts[0]? = some t → t.1 ≤ sec) (h1 : ts[k]? = some t0) (h2 : sec < t0.1) : OffK zs ts sec (k + 1) o := by
  rcases h with ⟨rfl, _⟩ | ⟨j, wn, ix, d, a1, a2, a3, a4, a5⟩
  · have := hf _ h1; omega
  · refine Or.inr ⟨j, wn, ix, d, by omega, a2, a3, fun i t b1 b2 b3 => ?_, a5⟩
    rcases Nat.lt_or_ge i k with c | c
    · exact a4 i t b1 c b3
    · obtain rfl : i = k := by omega
      rw [h1] at b3
      have := Option.some.inj b3
      subst this
      exact h2
theorem OffK.is {zs : List (Int × Bool)} {ts : List (Int × Int)} {sec o : Int} (h : OffK zs ts sec ts.length o) (hp : 0 < ts.length) : OffIs zs ts sec o := by
  rcases h with ⟨h, _⟩ | ⟨j, wn, ix, d, a1, a2, a3, a4, a5⟩
  · omega
  · exact ⟨j, wn, ix, d, a2, a3, fun i t b1 b2 => a4 i t b1 (List.getElem?_eq_some_iff.1 b2).1 b2, a5⟩
theorem OffK.exi {zs : List (Int × Bool)} {ts : List (Int × Int)} {sec : Int} (hok : TxOk zs ts) (hf : ∀ t : Int × Int, ts[0]? = some t → t.1 ≤ sec) : ∀ k, k ≤ ts.length → ∃ o, OffK zs ts sec k o
  | 0, _ => ⟨0, Or.inl ⟨rfl, rfl⟩⟩
  | k + 1, hk => by
    obtain ⟨o, h⟩ := OffK.exi hok hf k (by omega)
    have h1 : ts[k]? = some ts[k] := List.getElem?_eq_getElem (by omega)
    by_cases c : ts[k].1 ≤ sec
    · have hb := hok.2.2.2 k _ h1
      have hl : ts[k].2.toNat < zs.length := by have := hb.1; have := hb.2; omega
      exact ⟨(zs[ts[k].2.toNat]'hl).1, OffK.yes (d := (zs[ts[k].2.toNat]'hl).2) h1 c (List.getElem?_eq_getElem hl)⟩
    · exact ⟨o, h.no hf h1 (by omega)⟩
theorem ZOk.exi {offs : List Int} {dsts : List Bool} {whens idxs : List Int} (h : ZOk offs dsts whens idxs) {sec : Int} (hs : -9223372036854775808 ≤ sec) : ∃ off, OffP offs dsts whens idxs sec off := by
  by_cases hp : 0 < offs.length
  · obtain ⟨o, ho⟩ := OffK.exi (h.tx hp) (h.first hs) _ (Nat.le_refl _)
    exact ⟨o, fun hq => by rw [hq] at hp; simp at hp, fun _ => ho.is (h.pos hp)⟩
  · exact ⟨0, fun _ => rfl, fun hq => absurd hq hp⟩
theorem momentZ_any (offs : List Int) (dsts : List Bool) (whens idxs : List Int) (hok : Hid (ZOk offs dsts whens idxs)) (sec off : Int) (ns : Nat) (hn : ns < 1000000000) (h0 : -62135596800 ≤ sec) (h1 : sec ≤ 260000000000) (ho : Hid (OffP offs dsts whens idxs sec off)) (u : Nat) (w : World) (hu : Hid ((offs = [] → UtcAt w u) ∧ (0 < offs.length → LocAt w u (offs.zip dsts) (whens.zip idxs)))) :
    Calls Try.prog 34 #[.agg #[.int .i64 sec, .int .i64 ns], .pointer (some ⟨u, 0, none⟩)] w fun e w' => ∃ pa, e = .returned (.agg #[.int .u64 ns, .int .i64 (sec + 62135596800), .pointer pa]) ∧ AbsIs w' ns (sec + 62135596800) (.pointer pa) (sec + 62135596800 + off) ∧ Below w.heap.size w w' := by
  by_cases h : offs = []
  · refine (moment_any sec ns u hn h0 (by omega) w (hu.out.1 h)).mono ?_
    rintro e w' ⟨rfl, hb⟩
    refine ⟨none, rfl, ?_, hb⟩
    rw [ho.out.1 h, Int.add_zero]
    exact absUtc w' ns _ hn (by omega) (by omega)
  · have hp : 0 < offs.length := List.length_pos_iff.2 h
    have hl := hu.out.2 hp
    obtain ⟨vz, vt, hr, -, -⟩ := hu.out.2 hp
    refine (momentL_any (cs := locC vz vt) sec ns u hn h0 (by omega) w (Lib.hid hr) (Lib.hid rfl)).mono ?_
    rintro e w' ⟨rfl, hb⟩
    refine ⟨some ⟨u, 0, none⟩, rfl, fun W hW => ?_, hb⟩
    have e1 : sec + 62135596800 - 62135596800 = sec := by omega
    refine absZone_one (offs.zip dsts) (whens.zip idxs) u ns _ off hn (by omega) (by omega) (hok.out.off ho.out) (hok.out.pos hp) (Lib.hid (hok.out.tx hp)) (Lib.hid ?_) (Lib.hid ?_) W (Lib.hid ((hl.below hb).below hW))
    · rw [e1]; exact hok.out.first (by omega)
    · rw [e1]; exact fun o h => OffIs.unique (ho.out.2 hp) h

set_option maxRecDepth 100000 in
set_option maxHeartbeats 8000000 in
theorem cronDayZ_any (dom dow : Nat) (hdom : dom < 18446744073709551616) (hdow : dow < 18446744073709551616) (zv : Value) (offs : List Int) (dsts : List Bool) (whens idxs : List Int) (hok : Hid (ZOk offs dsts whens idxs)) (sec off : Int) (ns : Nat) (hn : ns < 1000000000) (h0 : -62135596800 ≤ sec) (h1 : sec ≤ 260000000000) (ho : Hid (OffP offs dsts whens idxs sec off)) (n : Int) (Hn : Hid (dayN (sec + 62135596800 + off) = n)) (w : World) (hz : Hid (ZoneAt w zv offs dsts whens idxs)) :
    Calls Try.prog 13 #[.int .u64 dom, .int .u64 dow, .agg #[.int .i64 sec, .int .i64 ns], zv] w fun e w' => e = .returned (.bool (dayB dom dow (dayOf n).toNat ((n + 4) % 7).toNat)) ∧ Below w.heap.size w w' := by
  have HZ0 := hz.out
  have hob := hok.out.off ho.out
  obtain ⟨bb, Hbb⟩ : ∃ b, Hid (dayB dom dow (dayOf n).toNat ((n + 4) % 7).toNat = b) := ⟨_, Lib.hid rfl⟩
  obtain ⟨vo, vd, vw, vi, rfl, s1, s2, s3, s4⟩ := HZ0
  obtain ⟨ao, co, rfl⟩ := s1.len
  obtain ⟨ad, cd, rfl⟩ := s2.len
  obtain ⟨aw, cw, rfl⟩ := s3.len
  obtain ⟨ai, ci, rfl⟩ := s4.len
  clear s1 s2 s3 s4
  go_enter Try.func13, Try.ntmps13
  go_wp2_with fail
  have HB := Lib.hid (((rws0 w).alloc _ rfl #[.int .i64 sec, .int .i64 ns] 24).alloc (w.heap.size + 1) (by simp) #[.slice ao offs.length co, .slice ad dsts.length cd, .slice aw whens.length cw, .slice ai idxs.length ci] 29)
  refine wp_named ?_
  intro W2 hW2
  rw [hW2] at HB
  clear hW2
  have HD := Lib.hid HB.out.drew
  clear HB
  refine wp_region_held_drew (S := fun w' => Hid (Rws w w' [(w.heap.size + 1, 29, #[.slice ao offs.length co, .slice ad dsts.length cd, .slice aw whens.length cw, .slice ai idxs.length ci]), (w.heap.size, 24, #[.int .i64 sec, .int .i64 ns])])) (by kernel_rfl) (Lib.hid HD.out) (fun hHeld => ?_)
  generalize W2.drew = Wd at HD hHeld ⊢
  (try simp only [Act.put, List.getElem_toArray, List.getElem_cons_zero, List.getElem_cons_succ, List.setIfInBounds_toArray, List.set_cons_zero, List.set_cons_succ])
  refine wpAnyH_take (i := 0) (v := ?_) rfl (by kernel_rfl) (by kernel_rfl) (by kernel_rfl) (fun _ _ _ h => h) (Or.inl ⟨by rfl, ?_⟩) (by assumption) ?_
  rotate_left
  · (intro wx hSw; go_simp; (try with_reducible rfl))
  (try simp only [Act.put, List.getElem_toArray, List.getElem_cons_zero, List.getElem_cons_succ, List.setIfInBounds_toArray, List.set_cons_zero, List.set_cons_succ])
  refine wpAnyH_take (i := 1) (v := ?_) rfl (by kernel_rfl) (by kernel_rfl) (by kernel_rfl) (fun _ _ _ h => h) (Or.inl ⟨by rfl, ?_⟩) (by assumption) ?_
  rotate_left
  · (intro wx hSw; go_simp; (try with_reducible rfl))
  (try simp only [Act.put, List.getElem_toArray, List.getElem_cons_zero, List.getElem_cons_succ, List.setIfInBounds_toArray, List.set_cons_zero, List.set_cons_succ])
  refine wpAnyH_take (i := 2) (v := ?_) rfl (by kernel_rfl) (by kernel_rfl) (by kernel_rfl) (fun _ _ _ h => h) (Or.inl ⟨by rfl, ?_⟩) (by assumption) ?_
  rotate_left
  · (intro wx hSw; have k0 : wx.cell? ⟨w.heap.size, 0, none⟩ = some (.int .i64 sec) := hSw.out.at1.cell 0; have k1 : wx.cell? ⟨w.heap.size, 1, none⟩ = some (.int .i64 ns) := hSw.out.at1.cell 1; go_simp; (try with_reducible rfl))
  (try simp only [Act.put, List.getElem_toArray, List.getElem_cons_zero, List.getElem_cons_succ, List.setIfInBounds_toArray, List.set_cons_zero, List.set_cons_succ])
  refine wpAnyH_take (i := 3) (v := ?_) rfl (by kernel_rfl) (by kernel_rfl) (by kernel_rfl) (fun _ _ _ h => h) (Or.inl ⟨by rfl, ?_⟩) (by assumption) ?_
  rotate_left
  · (intro wx hSw; have k0 : wx.cell? ⟨w.heap.size + 1, 0, none⟩ = some (.slice ao offs.length co) := hSw.out.at0.cell 0; have k1 : wx.cell? ⟨w.heap.size + 1, 1, none⟩ = some (.slice ad dsts.length cd) := hSw.out.at0.cell 1; have k2 : wx.cell? ⟨w.heap.size + 1, 2, none⟩ = some (.slice aw whens.length cw) := hSw.out.at0.cell 2; have k3 : wx.cell? ⟨w.heap.size + 1, 3, none⟩ = some (.slice ai idxs.length ci) := hSw.out.at0.cell 3; go_simp; (try with_reducible rfl))
  (try simp only [Act.put, List.getElem_toArray, List.getElem_cons_zero, List.getElem_cons_succ, List.setIfInBounds_toArray, List.set_cons_zero, List.set_cons_succ])
  refine wpAnyH_ready (rs := [4]) (by kernel_rfl) (by simp) ?_
  refine (AllReadyH.cons rfl (fun K hK => ?_) AllReadyH.nil)
  go_simp
  go_at_call 35
  refine (locationZ_any (.agg #[.slice ao offs.length co, .slice ad dsts.length cd, .slice aw whens.length cw, .slice ai idxs.length ci]) offs dsts whens idxs hok _ (Lib.hid (hz.out.below HD.out.2))).mono ?_
  rintro e w4 ⟨u, rfl, hu0, hu1, hb⟩
  have HD4 := Lib.hid (HD.out.below hb)
  have HN := Lib.hid HD4.out
  have HU := Lib.hid (And.intro hu0 hu1)
  clear hb HD hu0 hu1
  refine hK.out _ _ HN (fun hH2 => ?_)
  clear hK K hHeld 
  have hHeld := hH2
  clear hH2
  (try simp only [Act.put, List.getElem_toArray, List.getElem_cons_zero, List.getElem_cons_succ, List.setIfInBounds_toArray, List.set_cons_zero, List.set_cons_succ])
  refine wpAnyH_ready (rs := [5]) (by kernel_rfl) (by simp) ?_
  refine (AllReadyH.cons rfl (fun K hK => ?_) AllReadyH.nil)
  go_simp
  go_at_call 34
  refine (momentZ_any offs dsts whens idxs hok sec off ns hn h0 h1 ho u _ HU).mono ?_
  rintro e w5 ⟨pa, rfl, hA, hb⟩
  have HD5 := Lib.hid (HD4.out.below hb)
  have HN := Lib.hid HD5.out
  have HA := Lib.hid hA
  clear hb HD4 HU hA
  refine hK.out _ _ HN (fun hH2 => ?_)
  clear hK K hHeld 
  have hHeld := hH2
  clear hH2
  (try simp only [Act.put, List.getElem_toArray, List.getElem_cons_zero, List.getElem_cons_succ, List.setIfInBounds_toArray, List.set_cons_zero, List.set_cons_succ])
  refine wpAnyH_ready (rs := [6]) (by kernel_rfl) (by simp) ?_
  refine (AllReadyH.cons rfl (fun K hK => ?_) AllReadyH.nil)
  go_simp
  go_at_call 33
  refine (zzDayMatches_any dom dow hdom hdow w5 ns (sec + 62135596800) pa (sec + 62135596800 + off) HA (by omega) (by omega) n Hn _ (Lib.hid (Below.refl _ _))).mono ?_
  rintro e w6 ⟨rfl, hb⟩
  have HD6 := Lib.hid (HD5.out.below hb)
  have HN := Lib.hid HD6.out
  clear hb HD5 HA
  refine hK.out _ _ HN (fun hH2 => ?_)
  clear hK K hHeld 
  have hHeld := hH2
  clear hH2
  (try simp only [Act.put, List.getElem_toArray, List.getElem_cons_zero, List.getElem_cons_succ, List.setIfInBounds_toArray, List.set_cons_zero, List.set_cons_succ])
  refine wpAnyH_take (i := 7) (v := ?_) rfl (by kernel_rfl) (by kernel_rfl) (by kernel_rfl) (fun _ _ _ h => h) (Or.inl ⟨by rfl, ?_⟩) (by assumption) ?_
  rotate_left
  · (intro wx hSw; go_simp; (try with_reducible rfl))
  (try simp only [Act.put, List.getElem_toArray, List.getElem_cons_zero, List.getElem_cons_succ, List.setIfInBounds_toArray, List.set_cons_zero, List.set_cons_succ])
  refine wpAnyH_done (by kernel_rfl) ?_ _
  have hB := HD6.out.2
  go_wp2_with fail
  go_ret
  exact ⟨rfl, hB⟩

set_option maxRecDepth 100000 in
set_option maxHeartbeats 8000000 in
theorem cronOffsetZ_any (zv : Value) (offs : List Int) (dsts : List Bool) (whens idxs : List Int) (hok : Hid (ZOk offs dsts whens idxs)) (sec off : Int) (ns : Nat) (hn : ns < 1000000000) (h0 : -62135596800 ≤ sec) (h1 : sec ≤ 260000000000) (ho : Hid (OffP offs dsts whens idxs sec off)) (w : World) (hz : Hid (ZoneAt w zv offs dsts whens idxs)) :
    Calls Try.prog 38 #[zv, .int .i64 sec] w fun e w' => e = .returned (.int .i64 off) ∧ Below w.heap.size w w' := by
  have HZ0 := hz.out
  have hob := hok.out.off ho.out
  obtain ⟨vo, vd, vw, vi, rfl, s1, s2, s3, s4⟩ := HZ0
  obtain ⟨ao, co, rfl, ho0⟩ := s1
  obtain ⟨ad, cd, rfl⟩ := s2.len
  obtain ⟨aw, cw, rfl, hw0⟩ := s3
  obtain ⟨ai, ci, rfl, hi0⟩ := s4
  have HOF := Lib.hid (fun k x h => inAt ho0 k x h)
  have HWN := Lib.hid (fun k x h => inAt hw0 k x h)
  have HIX := Lib.hid (fun k x h => inAt hi0 k x h)
  clear s2 ho0 hw0 hi0
  have HLE : Hid (idxs.length = whens.length ∧ dsts.length = offs.length ∧ (∀ x ∈ idxs, 0 ≤ x ∧ x < offs.length) ∧ whens.length ≤ 4096 ∧ offs.length ≤ 64) := by
    rcases hok.out with ⟨rfl, rfl, rfl, rfl⟩ | ⟨k0, k1, k2, k3, k4, k5, k6, k7, k8, k9⟩
    · exact Lib.hid (by simp)
    · exact Lib.hid ⟨k5, k2, k8, k4, k1⟩
  have hwl : whens.length ≤ 4096 := HLE.out.2.2.2.1
  go_enter Try.func38, Try.ntmps38
  go_wp2_with fail
  go_loopw [5, 11] (fun to tk wr => ∃ (k : Nat) (x : Int), k ≤ whens.length ∧ to = .int .i64 x ∧ tk = .int .i64 k ∧ OffK (offs.zip dsts) (whens.zip idxs) sec k x ∧ RowAt wr w.heap.size 29 #[.slice ao offs.length co, .slice ad dsts.length cd, .slice aw whens.length cw, .slice ai idxs.length ci] ∧ Below w.heap.size w wr) (fun to tk _ => whens.length - (intOf tk).toNat)
  case atStart => exact ⟨0, 0, Nat.zero_le _, rfl, rfl, Or.inl ⟨rfl, rfl⟩, rowAt_last _ _ _ _ rfl, (Below.refl _ _).alloc (Nat.le_refl _) _⟩
  case round =>
    obtain ⟨k, x, hk, rfl, rfl, hK, hR, hb⟩ := hrel
    have HK := Lib.hid hK
    have HR := Lib.hid hR
    clear hK hR
    by_cases hkL : k < whens.length
    · obtain ⟨o1, ho1⟩ : ∃ x, whens[k]? = some x := ⟨whens[k], List.getElem?_eq_getElem hkL⟩
      obtain ⟨n1, hd1⟩ : ∃ x, idxs[k]? = some x := ⟨idxs[k]'(by rw [HLE.out.1]; exact hkL), List.getElem?_eq_getElem _⟩
      have hnb := HLE.out.2.2.1 n1 (List.mem_of_getElem? hd1)
      obtain ⟨m, rfl⟩ : ∃ m : Nat, n1 = m := ⟨n1.toNat, by omega⟩
      have hm : m < offs.length := by omega
      obtain ⟨x2, hx2⟩ : ∃ x, offs[m]? = some x := ⟨offs[m], List.getElem?_eq_getElem hm⟩
      obtain ⟨d2, hd2⟩ : ∃ x, dsts[m]? = some x := ⟨dsts[m]'(by rw [HLE.out.2.1]; exact hm), List.getElem?_eq_getElem _⟩
      obtain ⟨wb, woff, rfl, kw0⟩ := HWN.out k o1 ho1
      obtain ⟨ib, ioff, rfl, ki0⟩ := HIX.out k m hd1
      obtain ⟨ob, ooff, rfl, ko0⟩ := HOF.out m x2 hx2
      have kw := cellBS hb kw0
      have ki := cellBS hb ki0
      have ko := cellBS hb ko0
      have hki : k < idxs.length := by rw [HLE.out.1]; exact hkL
      have HT : Hid ((whens.zip idxs)[k]? = some (o1, (m : Int))) := Lib.hid (by simp [List.getElem?_zip_eq_some, ho1, hd1])
      have HV : Hid ((offs.zip dsts)[(m : Int).toNat]? = some (x2, d2)) := Lib.hid (by simp [List.getElem?_zip_eq_some, hx2, hd2])
      have z0 : wr.cell? ⟨w.heap.size, 0, none⟩ = some (.slice (some ⟨ob, ooff, none⟩) offs.length co) := HR.out.cell 0
      have z3 : wr.cell? ⟨w.heap.size, 3, none⟩ = some (.slice (some ⟨ib, ioff, none⟩) idxs.length ci) := HR.out.cell 3
      clear kw0 ki0 ko0 ho1 hd1 hx2 hd2
      by_cases c : o1 ≤ sec
      · have HKY := Lib.hid (OffK.yes HT.out c HV.out)
        go_wp2_with fail
        go_quiet (fail)
        go_wp2_with fail
        go_roundw
        case rel => exact ⟨k + 1, x2, by omega, rfl, by go_num, HKY.out, HR.out.below (below_drewN (Below.refl _ _) _), below_drewN hb _⟩
        case measure => simp [intOf]; omega
      · have HKN := Lib.hid (HK.out.no (hok.out.first (by omega)) HT.out (by simpa using (Int.not_le.1 c)))
        go_wp2_with fail
        go_roundw
        case rel => trace_state; exact ⟨k + 1, x, by omega, rfl, by go_num, HKN.out, HR.out, hb⟩
        case measure => simp [intOf]; omega
    · obtain rfl : k = whens.length := by omega
      have HX : Hid (x = off) := by
        by_cases hp : offs = []
        · rcases hok.out with ⟨_, _, hw, _⟩ | ⟨k0, _⟩
          · rcases HK.out with ⟨_, hx⟩ | ⟨j, _, _, _, hj, _⟩
            · rw [ho.out.1 hp, hx]; exact Lib.hid rfl
            · rw [hw] at hj; simp at hj
          · rw [hp] at k0; simp at k0
        · have h0' : 0 < offs.length := List.length_pos_iff.2 hp
          have hKE := HK.out
          rw [show whens.length = (whens.zip idxs).length by rw [List.length_zip, HLE.out.1, Nat.min_self]] at hKE
          exact Lib.hid (OffIs.unique (ho.out.2 h0') (hKE.is (hok.out.pos h0')))
      go_wp2_with fail
      go_ret
      exact ⟨by rw [HX.out]; rfl, hb⟩

end Go.Proofs.Ytpgclepiagfgfaa
