/- laws.FnSemverTermsDistribute returns true for every input. -/
import Derived.Test.YtdlpcfhhpjjjmaaDoorTmC
import Derived.Test.YtdlpcfhhpjjjmaaDoorSvGoods
import Derived.Deep.RegionLawGrows
namespace Go.Proofs.YtdlpcfhhpjjjmaaDoor
open Go.RowKit
set_option linter.unusedVariables false
set_option linter.unusedSimpArgs false

/-- One version as a row. -/
theorem row_one (W : World) (v : VP) : RowAt (W.alloc (.cells #[.int .u64 v.1, .int .u64 v.2.1, .int .u64 v.2.2.1, .string v.2.2.2.1, .string v.2.2.2.2] 25)) W.heap.size [v] := by
  intro i hi
  have h := plainAt_last W #[.int .u64 v.1, .int .u64 v.2.1, .int .u64 v.2.2.1, .string v.2.2.2.1, .string v.2.2.2.2] _ rfl
  rcases i with _ | i
  · exact ⟨h.cell 0, h.cell 1, h.cell 2, h.cell 3, h.cell 4⟩
  · exact absurd hi (by show ¬ i + 1 < 1; omega)

/-- From the loop on: all is good. -/
def DistrGo (c : List (List Tm)) (l : List Tm) (x y z : Int) (q n : ByteArray) (pre : Bool) : Prop :=
  FitC c ∧ FitL l ∧ OkC 24 c ∧ OkC 24 [l] ∧ (∀ m ∈ c, ∀ t ∈ m, NumT t) ∧ (∀ t ∈ l, NumT t) ∧ 0 ≤ x ∧ 0 ≤ y ∧ q.size ≤ 2147483647 ∧ n.size ≤ 2147483647 ∧ (q.toList = [] ∨ pre = true)

/-- A term's cells. -/
def tmL (t : Tm) : List Value := (termC t.1 t.2.1 t.2.2.1 t.2.2.2.1 t.2.2.2.2.1 t.2.2.2.2.2).toList
def tmsL (l : List Tm) : List Value := (l.map tmL).flatten
theorem tmsL_len (l : List Tm) : (tmsL l).length = l.length * 6 := by
  unfold tmsL
  induction l with
  | nil => rfl
  | cons t l ih => simp only [List.map_cons, List.flatten_cons, List.length_append, ih, List.length_cons]; show 6 + _ = _; omega
theorem tmsL_app (l m : List Tm) : tmsL l ++ tmsL m = tmsL (l ++ m) := by unfold tmsL; simp
theorem tmsL_one (l : List Tm) : ∀ u ∈ tmsL l, u.oneCell' = true := by
  intro u hu
  unfold tmsL at hu
  rw [List.mem_flatten] at hu
  obtain ⟨us, hus, hu⟩ := hu
  rw [List.mem_map] at hus
  obtain ⟨t, _, rfl⟩ := hus
  unfold tmL at hu
  simp at hu
  rcases hu with rfl | rfl | rfl | rfl | rfl | rfl <;> rfl
theorem add_at (b off n : Nat) : (⟨b, off, none⟩ : Addr).add n = ⟨b, off + n, none⟩ := by unfold Addr.add; split <;> simp_all
/-- A slice of terms that is not empty, as the source of an append. -/
theorem slTm_src {w : World} {u : Value} {m : List Tm} (h : SlOf RTm 6 w u m) (hm : m ≠ []) : ∃ b off cap, u = .slice (some ⟨b, off, none⟩) m.length cap ∧ ∀ (j : Nat) (x : Value), (tmsL m)[j]? = some x → w.cell? ((⟨b, off, none⟩ : Addr).add j) = some x := by
  obtain ⟨ao, cap, rfl, hx⟩ := h
  obtain ⟨t0, ht0⟩ : ∃ t, m[0]? = some t := by cases m with
    | nil => exact absurd rfl hm
    | cons a r => exact ⟨a, rfl⟩
  obtain ⟨b, off, us, rfl, -⟩ := hx 0 t0 ht0
  refine ⟨b, off, cap, rfl, fun j x hj => ?_⟩
  have hj2 := (List.getElem?_eq_some_iff.1 hj).1
  rw [tmsL_len] at hj2
  have hi : j / 6 < m.length := by omega
  obtain ⟨b', off', us', e, hz, hc, hr⟩ := hx (j / 6) m[j / 6] (List.getElem?_eq_getElem hi)
  simp only [Option.some.injEq, Addr.mk.injEq, and_true] at e
  obtain ⟨rfl, rfl⟩ := e
  have hf := flat_at 6 (m.map tmL) (j / 6) (j % 6) (tmL m[j / 6]) (fun us hus => by rw [List.mem_map] at hus; obtain ⟨t, _, rfl⟩ := hus; rfl) (by rw [List.getElem?_map, List.getElem?_eq_getElem hi]; rfl) (by omega)
  rw [show j / 6 * 6 + j % 6 = j by omega] at hf
  rw [show (m.map tmL).flatten[j]? = (tmsL m)[j]? from rfl, hj] at hf
  have := hc (j % 6) x (by rw [show us' = tmL m[j / 6] from hr, ← hf])
  rw [add_at]
  rw [show off + j = off + j / 6 * 6 + j % 6 by omega]
  exact this
theorem own_terms {w : World} {B e n : Nat} {v : Value} {l : List Tm} (h : w.ownsRow B e 6 v n (tmsL l)) (hn : n = l.length) : OwnOf RTm 6 B e w v l := by
  subst hn
  refine ⟨l.map tmL, by simp, fun us hus => by rw [List.mem_map] at hus; obtain ⟨t, _, rfl⟩ := hus; rfl, h, fun i x us hi hu => ?_⟩
  rw [List.getElem?_map, hi] at hu
  simp at hu
  exact hu.symm
theorem own_shape {w : World} {B e z n : Nat} {v : Value} {xs : List Value} (h : w.ownsRow B e z v n xs) : ∃ ao cap, v = .slice ao n cap := by
  rcases h.2 with ⟨rfl, rfl⟩ | ⟨g, cap, cur, rfl, _⟩
  · exact ⟨_, _, rfl⟩
  · exact ⟨_, _, rfl⟩
/-- Lists of terms that the call itself makes. -/
def RTmo (B : Nat) (w : World) (us : List Value) (l : List Tm) : Prop := ∃ u, us = [u] ∧ OwnOf RTm 6 B 36 w u l
theorem RTm.stab {e : TypeId} : Stab e RTm := fun _ _ _ _ _ h => h
theorem RTmo.stab {B : Nat} {e : TypeId} (he : 36 ≠ e) : Stab e (RTmo B) := fun w w' us t hx ⟨u, e', h⟩ => ⟨u, e', h.exc he RTm.stab hx⟩
theorem rtmo_rtms {B : Nat} {w : World} {us : List Value} {l : List Tm} (h : RTmo B w us l) : RTms w us l := by
  obtain ⟨u, e, ho⟩ := h
  exact ⟨u, e, ho.sl⟩
theorem RTmo.mono {B : Nat} : Mono (RTmo B) := (RTmo.stab (e := 0) (by decide)).mono
theorem Tryd.infoTm : (Tryd.prog.info? 36).map (fun i => (i.zero, i.size, i.bytes)) = some (some (.agg #[.int .i64 0, .int .i64 0, .int .u64 0, .int .u64 0, .int .u64 0, .string ByteArray.empty]), 6, 56) := by kernel_rfl
theorem Tryd.infoTms : (Tryd.prog.info? 59).map (fun i => (i.zero, i.size, i.bytes)) = some (some (.slice none 0 0), 1, 24) := by kernel_rfl

/-- A slice of the call's own that is not empty, as what an append goes on from. -/
theorem own_block {α : Type} {R : World → List Value → α → Prop} {z B : Nat} {e : TypeId} {w : World} {v : Value} {l : List α} (h : OwnOf R z B e w v l) (hn : l ≠ []) :
    ∃ (g cap : Nat) (cs : List (List Value)), v = .slice (some ⟨g, 0, none⟩) l.length cap ∧ l.length ≤ cap ∧ cs.length = l.length ∧ (∀ us ∈ cs, us.length = z) ∧ cs.flatten.length = l.length * z ∧ (∀ (j : Nat) (u : Value), cs.flatten[j]? = some u → w.cell? ((⟨g, 0, none⟩ : Addr).add j) = some u) ∧ (∀ (i : Nat) (x : α) (us : List Value), l[i]? = some x → cs[i]? = some us → R w us x) := by
  obtain ⟨cs, hl, hz, hown, hr⟩ := h
  rcases hown.2 with ⟨rfl, h0⟩ | ⟨g, cap, cur, rfl, hb, hg, hnc, _⟩
  · exact absurd (by simpa using h0) hn
  · exact ⟨g, cap, cs, rfl, hnc, hl, hz, hown.1, hown.cells rfl, hr⟩
theorem OwnOf.grow {α : Type} {R : World → List Value → α → Prop} {z B n : Nat} {e : TypeId} (hR : Mono R) {w w' : World} {v' : Value} {l : List α} {x : α} {us : List Value} {cs : List (List Value)}
    (hn : l.length = n) (hl : cs.length = n) (hz : ∀ us ∈ cs, us.length = z) (hr : ∀ (i : Nat) (x : α) (us : List Value), l[i]? = some x → cs[i]? = some us → R w us x)
    (hb : Below w.heap.size w w') (hown' : w'.ownsRow B e z v' (n + 1) (cs.flatten ++ us)) (hu : us.length = z) (hx : R w us x) : OwnOf R z B e w' v' (l ++ [x]) := by
  subst hn
  refine ⟨cs ++ [us], by simp [hl], fun u h => ?_, by simpa using hown', fun i y vs hi hv => ?_⟩
  · rcases List.mem_append.1 h with h | h
    · exact hz u h
    · simp at h; subst h; exact hu
  · by_cases hil : i < l.length
    · rw [List.getElem?_append_left hil] at hi
      rw [List.getElem?_append_left (by omega)] at hv
      exact hR _ _ _ _ hb (hr i y vs hi hv)
    · have hi' := (List.getElem?_eq_some_iff.1 hi).1
      simp at hi'
      obtain rfl : i = l.length := by omega
      simp at hi
      rw [← hl] at hv
      simp at hv
      subst hi; subst hv
      exact hR _ _ _ _ hb hx

set_option maxRecDepth 100000 in
set_option maxHeartbeats 1000000 in
theorem stTerm_own (x y z : Int) (q n : ByteArray) (w : World) :
    Calls Tryd.prog 33 #[.int .i64 0, .agg (plainC x y z q n), .int .i64 3] w fun e w' => e = .returned (.agg (termC 0 3 x y z q)) ∧ Below w.heap.size w w' := by
  go_enter Tryd.func33, Tryd.ntmps33
  go_wp2_with fail
  go_region
  all_goals go_wp2_with fail
  all_goals
    refine bodyPost_ret (v := .agg (termC 0 3 x y z q)) (by simp [results, Tryd.results33, go_sem]) rfl ⟨rfl, ?_⟩
    exact (by repeat (first | (with_reducible assumption) | (with_reducible exact Below.refl _ _) | (with_reducible refine below_drewN ?_ _) | (with_reducible refine Below.drew ?_) | (with_reducible refine Below.alloc ?_ (by first | omega | (simp <;> omega)) _)))

theorem tmsIn_app {c : List (List Tm)} {l : List Tm} (hc : OkC 24 c) (hl : OkC 24 [l]) : TmsIn (c.map (· ++ l)) := by
  refine ⟨by rw [List.length_map]; have := hc.2.1; omega, fun m hm => ?_⟩
  rw [List.mem_map] at hm
  obtain ⟨a, ha, rfl⟩ := hm
  have h1 := (tmsIn_ok (by omega) hc).2 a ha
  have h2 := (tmsIn_ok (by omega) hl).2 l (by simp)
  refine ⟨by have := (hc.2.2 a ha).2.1; have := (hl.2.2 l (by simp)).2.1; rw [List.length_append]; omega, fun t ht => ?_⟩
  rcases List.mem_append.1 ht with h | h
  · exact h1.2 t h
  · exact h2.2 t h
theorem checks_app {h : Tm → Bool → Bool} {x y z : Int} {q : ByteArray} {c : List (List Tm)} {l : List Tm} (hc : ChecksAre h x y z q c) (hl : ChecksAre h x y z q [l]) : ChecksAre h x y z q (c.map (· ++ l)) := by
  intro m hm t ht pre
  rw [List.mem_map] at hm
  obtain ⟨a, ha, rfl⟩ := hm
  rcases List.mem_append.1 ht with h | h
  · exact hc a ha t h pre
  · exact hl l (by simp) t h pre
theorem tmsIn_own {d : List (List Tm)} (hd : TmsIn d) (hn : d.length ≤ 999) (x y z : Int) (q : ByteArray) : TmsIn (d ++ [[(0, 3, x, y, z, q)]]) := by
  refine ⟨by simp; omega, fun m hm => ?_⟩
  rcases List.mem_append.1 hm with h | h
  · exact hd.2 m h
  · rw [List.mem_singleton] at h
    subst h
    refine ⟨by simp, fun t ht => ?_⟩
    rw [List.mem_singleton] at ht
    subst ht
    exact ⟨⟨by show (0 : Int) ≤ 0; decide, by show (0 : Int) ≤ 7; decide⟩, by show (0 : Int) ≤ 3; decide, by show (3 : Int) ≤ 3; decide⟩
theorem checks_own {x y z : Int} {q : ByteArray} {d : List (List Tm)} (hd : ChecksAre (chk x y z q) x y z q d) (hx : 0 ≤ x) (hy : 0 ≤ y) (hq : q.size ≤ 2147483647) : ChecksAre (chk x y z q) x y z q (d ++ [[(0, 3, x, y, z, q)]]) := by
  intro m hm t ht pre
  rcases List.mem_append.1 hm with h | h
  · exact hd m h t ht pre
  · rw [List.mem_singleton] at h
    subst h
    rw [List.mem_singleton] at ht
    subst ht
    exact chkB_is 0 _ _ _ x y z x y z q q pre ⟨by decide, by decide⟩ hq hq hx hy hx hy (fun h => by simp at h)

set_option maxRecDepth 100000 in
set_option maxHeartbeats 16000000 in
theorem distr_walk (c : List (List Tm)) (l : List Tm) (v1 v2 : Value) (x y z : Int) (q n : ByteArray) (pre : Bool) (w : World) (hc : Hid (SlOf RTms 1 w v1 c)) (hl : Hid (SlOf RTm 6 w v2 l)) (hN : Hid ((∀ m ∈ c, ∀ t ∈ m, NumT t) ∧ (∀ t ∈ l, NumT t) ∧ 0 ≤ x ∧ 0 ≤ y)) (he : Hid (Errs w)) :
    Calls Tryd.prog 13 #[v1, v2, .agg (plainC x y z q n), .bool pre] w (BoolPost true w) := by
  obtain ⟨ao, cap, rfl⟩ := hc.out.len
  obtain ⟨ao1, cap1, rfl⟩ := hl.out.len
  obtain ⟨i0, hi, hz0, hz1, hz2⟩ := info_parts Tryd.infoTm
  obtain ⟨j0, gi, gz0, gz1, gz2⟩ := info_parts Tryd.infoTms
  go_enter Tryd.func13, Tryd.ntmps13
  go_wp2_with fail
  refine (fits11_any c _ _ (hc.out.below RTms.mono ((Below.refl _ _).alloc (Nat.le_refl _) _))).mono ?_
  rintro e wa ⟨r, rfl, hba, hr⟩
  have ba := ((Below.refl w.heap.size w).alloc (Nat.le_refl _) (.cells (plainC x y z q n) 25)).trans (hba.mono (by simp))
  have hP : Hid (PlainAt wa w.heap.size (plainC x y z q n)) := (plainAt_last w (plainC x y z q n) _ rfl).below9 hba
  clear hba
  cases r with
  | false =>
    go_wp2_with fail
    go_ret
    exact ⟨rfl, ba⟩
  | true =>
    have HFC := Lib.hid (hr rfl)
    clear hr
    go_wp2_with fail
    refine (fits12_any l _ _ (hl.out.below RTm.mono ba)).mono ?_
    rintro e wb ⟨r, rfl, hbb, hr⟩
    have bb := ba.trans (hbb.mono ba.size)
    have hP : Hid (PlainAt wb w.heap.size (plainC x y z q n)) := hP.out.below9 hbb
    clear hbb
    cases r with
    | false =>
      go_wp2_with fail
      go_ret
      exact ⟨rfl, bb⟩
    | true =>
      have HFL := Lib.hid (hr rfl)
      clear hr
      have p0 := hP.out.cell 0
      have p1 := hP.out.cell 1
      have p2 := hP.out.cell 2
      have p3 := hP.out.cell 3
      have p4 := hP.out.cell 4
      obtain ⟨fb, hfb⟩ : ∃ fb, Hid ((decide (q.size ≤ 2147483647) && decide (n.size ≤ 2147483647)) = fb) := ⟨_, rfl⟩
      go_wp2_with fail
      refine (fits14_any x y z q n fb hfb.out _).mono ?_
      rintro e wc ⟨rfl, hwc⟩
      have hbc : Below wb.heap.size wb wc := by rw [hwc]; exact (Below.refl _ _).alloc (Nat.le_refl _) _
      have bc := bb.trans (hbc.mono bb.size)
      have hP : Hid (PlainAt wc w.heap.size (plainC x y z q n)) := hP.out.below9 hbc
      clear hbc hwc p0 p1 p2 p3 p4 ba bb
      cases fb with
      | false =>
        go_wp2_with fail
        go_ret
        exact ⟨rfl, bc⟩
      | true =>
        go_wp2_with fail
        refine (scGood_any c _ HFC _ (hc.out.below RTms.mono bc)).mono ?_
        rintro e wd ⟨r, rfl, hbd, hr⟩
        have bd := bc.trans (hbd.mono bc.size)
        have hP : Hid (PlainAt wd w.heap.size (plainC x y z q n)) := hP.out.below9 hbd
        clear hbd bc
        cases r with
        | false =>
          go_wp2_with fail
          go_ret
          exact ⟨rfl, bd⟩
        | true =>
          have HOC := Lib.hid (hr rfl)
          clear hr
          go_wp2_with fail
          refine (scList_any l _ HFL _ (hl.out.below RTm.mono bd)).mono ?_
          rintro e we ⟨r, rfl, hbe, hr⟩
          have bE := bd.trans (hbe.mono bd.size)
          have hP : Hid (PlainAt we w.heap.size (plainC x y z q n)) := hP.out.below9 hbe
          clear hbe bd
          cases r with
          | false =>
            go_wp2_with fail
            go_ret
            exact ⟨rfl, bE⟩
          | true =>
            have HOL := Lib.hid (hr rfl)
            clear hr
            have p0 := hP.out.cell 0
            have p1 := hP.out.cell 1
            have p2 := hP.out.cell 2
            have p3 := hP.out.cell 3
            have p4 := hP.out.cell 4
            have hsz : q.size ≤ 2147483647 ∧ n.size ≤ 2147483647 := by
              have := hfb.out
              simp only [Bool.and_eq_true, decide_eq_true_eq] at this
              exact this
            have HSZ := Lib.hid hsz
            clear hsz
            go_wp2_with fail
            refine (svGood_any we.heap.size 1 [(x, y, z, q, n)] (by simp) (by simp) (fun i => ?_) _ (by simp) (row_one we (x, y, z, q, n))).mono ?_
            · rcases i with _ | i
              · exact HSZ.out
              · exact ⟨by show noStr.size ≤ _; exact Nat.zero_le _, by show noStr.size ≤ _; exact Nat.zero_le _⟩
            rintro e wf ⟨rfl, hbf⟩
            have bF := bE.trans (((Below.refl we.heap.size we).alloc (Nat.le_refl _) (.cells (plainC x y z q n) 25) |>.trans (hbf.mono (by simp))).mono bE.size)
            have hP : Hid (PlainAt wf w.heap.size (plainC x y z q n)) := hP.out.below9 (((Below.refl we.heap.size we).alloc (Nat.le_refl _) (.cells (plainC x y z q n) 25)).trans (hbf.mono (by simp)))
            clear hbf bE p0 p1 p2 p3 p4
            have p0 := hP.out.cell 0
            have p1 := hP.out.cell 1
            have p2 := hP.out.cell 2
            have p3 := hP.out.cell 3
            have p4 := hP.out.cell 4
            generalize goodAll [(x, y, z, q, n)] = gg
            obtain ⟨qe, hqe⟩ : ∃ qe, q.toList.isEmpty = qe := ⟨_, rfl⟩
            by_cases hgo : gg = true ∧ (qe = true ∨ pre = true)
            · have hQ : Hid (q.toList = [] ∨ pre = true) := by
                rcases hgo.2 with h | h
                · left; rw [h] at hqe; simpa using hqe
                · exact Or.inr h
              obtain ⟨b1, off1, cap1', e1, hsrc⟩ := slTm_src hl.out (HOL.out.2.2 l (by simp)).1
              simp only [Value.slice.injEq, true_and] at e1
              obtain ⟨rfl, rfl⟩ := e1
              have HSRC := Lib.hid hsrc
              have hll := (HOL.out.2.2 l (by simp)).2.1
              have hcl := HOC.out.2.1
              clear hsrc
              obtain ⟨rfl, hgo2⟩ := hgo
              have hp2 : qe = true ∨ (qe = false ∧ pre = true) := by cases qe <;> simp_all
              rcases hp2 with rfl | ⟨rfl, rfl⟩
              · go_wp2_with fail
                go_loopw [9, 51] (fun dv i wr => ∃ k : Nat, k ≤ c.length ∧ i = .int .i64 k ∧ OwnOf (RTmo w.heap.size) 1 w.heap.size 59 wr dv ((c.take k).map (· ++ l)) ∧ Hid (PlainAt wr w.heap.size (plainC x y z q n)) ∧ Below w.heap.size w wr) (fun _ i _ => c.length - (intOf i).toNat)
                case atStart => exact ⟨0, Nat.zero_le _, rfl, OwnOf.nil _ _ _ _ _, hP, bF⟩
                case round =>
                  obtain ⟨k, hk, rfl, hown, hPr, hb⟩ := hrel
                  clear p0 p1 p2 p3 p4
                  by_cases hkL : k < c.length
                  · obtain ⟨m, hm⟩ : ∃ m, c[k]? = some m := ⟨c[k], List.getElem?_eq_getElem hkL⟩
                    have hmO := HOC.out.2.2 m (List.mem_of_getElem? hm)
                    obtain ⟨ao3, cap3, hcs, hx3⟩ := hc.out
                    simp only [Value.slice.injEq, true_and] at hcs
                    obtain ⟨rfl, rfl⟩ := hcs
                    obtain ⟨ab, aoff, us, rfl, hz, hcell, u, rfl, hu⟩ := hx3 k m hm
                    have c0 := cellBS hb (hcell 0 u rfl)
                    simp only [Nat.mul_one, Nat.add_zero] at c0
                    obtain ⟨b2, off2, cap2, rfl, hsrc2⟩ := slTm_src (hu.below RTm.mono hb) hmO.1
                    have HM := Lib.hid hm
                    have hml := hmO.2.1
                    have HS2 := Lib.hid hsrc2
                    clear hsrc2 hu hcell hz hx3 hm hmO
                    have bA := (Below.refl wr.heap.size wr).alloc (Nat.le_refl _) (.cells #[] 36)
                    have how := World.ownsRow_lit (base := wr.heap.size) (e := 36) (size := 6) wr #[] 0 (Nat.le_refl _) (by unfold maxLen; omega) rfl
                    go_wp2_with (at_builtin; refine stop_here ?_)
                    unfold Stop
                    refine wpList_append_own _ rfl _ _ 59 rfl _ 36 i0 (.agg #[.int .i64 0, .int .i64 0, .int .u64 0, .int .u64 0, .int .u64 0, .string ByteArray.empty]) 6 56 Tryd.underlying59 hi hz0 hz1 hz2 rfl (by decide) _ _ _ rfl how ⟨b2, off2, none⟩ m.length cap2 (tmsL m) rfl (tmsL_len m) (fun j u h => cellBS bA (HS2.out j u h)) (tmsL_one m) ?_ ?_ ?_ ?_
                    · unfold maxLen; omega
                    · omega
                    · exact bA.size
                    intro v3 w3 hown3 hg3 _
                    have b3 := Below.grown bA hg3 bA.size (fun k hk => (how.lt k hk).1)
                    clear hg3 how bA
                    simp only [Array.toList_empty, List.nil_append, Nat.zero_add] at hown3
                    go_wp2_with (at_builtin; refine stop_here ?_)
                    unfold Stop
                    refine wpList_append_own _ rfl _ _ 59 rfl _ 36 i0 (.agg #[.int .i64 0, .int .i64 0, .int .u64 0, .int .u64 0, .int .u64 0, .string ByteArray.empty]) 6 56 Tryd.underlying59 hi hz0 hz1 hz2 rfl (by decide) _ _ _ rfl hown3 ⟨b1, off1, none⟩ l.length cap1 (tmsL l) rfl (tmsL_len l) (fun j u h => cellBS (hb.trans (b3.mono hb.size)) (HSRC.out j u h)) (tmsL_one l) ?_ ?_ ?_ ?_
                    · unfold maxLen; omega
                    · omega
                    · exact b3.size
                    intro v4 w4 hown4 hg4 _
                    have b4 := Below.grown b3 hg4 b3.size (fun k hk => (hown3.lt k hk).1)
                    rw [tmsL_app] at hown4
                    clear hg4 hown3 b3
                    obtain ⟨ao4, cap4, rfl⟩ := own_shape hown4
                    have HO4 := Lib.hid ((own_terms hown4 (by simp)).base (B' := w.heap.size) hb.size)
                    clear hown4
                    have hPr4 : Hid (PlainAt w4 w.heap.size (plainC x y z q n)) := hPr.out.below9 b4
                    have b5 := b4.alloc b4.size (.cells #[.slice ao4 (m.length + l.length) cap4] 59)
                    obtain ⟨cs, hcl2, hcz, hown5, hR⟩ := hown.below RTmo.mono b5
                    rw [List.length_map, List.length_take_of_le hk] at hown5 hcl2
                    go_wp2_with (at_builtin; refine stop_here ?_)
                    unfold Stop
                    refine wpList_append_own _ rfl _ _ 50 rfl _ 59 j0 (.slice none 0 0) 1 24 Tryd.underlying50 gi gz0 gz1 gz2 rfl (by decide) _ _ _ rfl hown5 ⟨w4.heap.size, 0, none⟩ 1 1 [.slice ao4 (m.length + l.length) cap4] rfl rfl (cells_new _ #[.slice ao4 (m.length + l.length) cap4] _) ?_ ?_ ?_ ?_ ?_
                    · intro u hu; simp at hu; subst hu; rfl
                    · unfold maxLen; omega
                    · omega
                    · exact Nat.le_trans hb.size b5.size
                    intro v6 w6 hown6 hg6 _
                    have hE := Exc.ofGrown hown5 hg6
                    have hp := OwnOf.push (RTmo.stab (B := w.heap.size) (e := 59) (by decide)) (by rw [List.length_map, List.length_take_of_le hk]) hcl2 hcz hown5 hR hg6 hown6 rfl ⟨_, rfl, HO4.out.below RTm.mono ((Below.refl _ _).alloc (Nat.le_refl _) _)⟩
                    have eq9 : (c.take k).map (· ++ l) ++ [m ++ l] = (c.take (k + 1)).map (· ++ l) := by rw [take_snoc c k _ HM.out, List.map_append]; rfl
                    rw [eq9] at hp
                    have b6 := Below.grown (hb.trans (b5.mono hb.size)) hg6 (Nat.le_trans hb.size b5.size) (fun k hk => (hown5.lt k hk).1)
                    have hP6 : Hid (PlainAt w6 w.heap.size (plainC x y z q n)) := hE _ _ _ _ (hPr4.out.below9 ((Below.refl _ _).alloc (Nat.le_refl _) _)) (by decide)
                    clear hg6 hown6 hown5 hR hcz hcl2 hE eq9 b4 b5 hown hPr
                    go_wp2_with fail
                    go_roundw
                    case rel => exact ⟨k + 1, by omega, by go_num, hp, hP6, b6⟩
                    case measure => simp [intOf]; omega
                  · obtain rfl : k = c.length := by omega
                    rw [List.take_length] at hown
                    have hce : (c.map (· ++ l)) ≠ [] := by intro e; exact HOC.out.1 (by simpa using e)
                    obtain ⟨gd, capd, cs, ed, hcd, hcl2, hcz, hclen, hccell, hR⟩ := own_block hown hce
                    rw [List.length_map] at ed hcd hcl2 hclen
                    subst ed
                    have HC2 := Lib.hid (And.intro hcl2 (And.intro hcz (And.intro hclen (And.intro hccell hR))))
                    have HOWN := Lib.hid hown
                    clear hcl2 hcz hclen hccell hR hown
                    go_wp2_with fail
                    refine wp_region_held_drew (S := fun w' => Hid (Below wr.heap.size wr w')) (by kernel_rfl) ?_ (fun hHeld => ?_)
                    · exact (Below.refl _ _).drew
                    refine wpAnyH_take (i := 0) (v := ?_) rfl (by kernel_rfl) (by kernel_rfl) (by kernel_rfl) (fun _ _ _ h => h) (Or.inl ⟨by rfl, ?_⟩) (by assumption) ?_
                    rotate_left
                    · (intro w hSw; go_simp; (try with_reducible rfl))
                    (try simp only [Act.put, List.getElem_toArray, List.getElem_cons_zero, List.getElem_cons_succ, List.setIfInBounds_toArray, List.set_cons_zero, List.set_cons_succ])
                    refine wpAnyH_take (i := 1) (v := ?_) rfl (by kernel_rfl) (by kernel_rfl) (by kernel_rfl) (fun _ _ _ h => h) (Or.inl ⟨by rfl, ?_⟩) (by assumption) ?_
                    rotate_left
                    · (intro w hSw; go_simp; (try with_reducible rfl))
                    (try simp only [Act.put, List.getElem_toArray, List.getElem_cons_zero, List.getElem_cons_succ, List.setIfInBounds_toArray, List.set_cons_zero, List.set_cons_succ])
                    refine wpAnyH_take (i := 2) (v := ?_) rfl (by kernel_rfl) (by kernel_rfl) (by kernel_rfl) (fun _ _ _ h => h) (Or.inl ⟨by rfl, ?_⟩) (by assumption) ?_
                    rotate_left
                    · (intro w hSw; go_simp; (try with_reducible rfl))
                    (try simp only [Act.put, List.getElem_toArray, List.getElem_cons_zero, List.getElem_cons_succ, List.setIfInBounds_toArray, List.set_cons_zero, List.set_cons_succ])
                    refine wpAnyH_take (i := 3) (v := ?_) rfl (by kernel_rfl) (by kernel_rfl) (by kernel_rfl) (fun _ _ _ h => h) (Or.inl ⟨by rfl, ?_⟩) (by assumption) ?_
                    rotate_left
                    · (intro w hSw; go_simp; (try with_reducible rfl))
                    (try simp only [Act.put, List.getElem_toArray, List.getElem_cons_zero, List.getElem_cons_succ, List.setIfInBounds_toArray, List.set_cons_zero, List.set_cons_succ])
                    refine wpAnyH_take (i := 4) (v := ?_) rfl (by kernel_rfl) (by kernel_rfl) (by kernel_rfl) (fun _ _ _ h => h) (Or.inl ⟨by rfl, ?_⟩) (by assumption) ?_
                    rotate_left
                    · (intro w hSw; go_simp; (try with_reducible rfl))
                    (try simp only [Act.put, List.getElem_toArray, List.getElem_cons_zero, List.getElem_cons_succ, List.setIfInBounds_toArray, List.set_cons_zero, List.set_cons_succ])
                    refine wpAnyH_take (i := 5) (v := ?_) rfl (by kernel_rfl) (by kernel_rfl) (by kernel_rfl) (fun _ _ _ h => h) (Or.inl ⟨by rfl, ?_⟩) (by assumption) ?_
                    rotate_left
                    · (intro w hSw; go_simp; (try with_reducible rfl))
                    (try simp only [Act.put, List.getElem_toArray, List.getElem_cons_zero, List.getElem_cons_succ, List.setIfInBounds_toArray, List.set_cons_zero, List.set_cons_succ])
                    refine wpAnyH_take (i := 6) (v := ?_) rfl (by kernel_rfl) (by kernel_rfl) (by kernel_rfl) (fun _ _ _ h => h) (Or.inl ⟨by rfl, ?_⟩) (by assumption) ?_
                    rotate_left
                    · (intro w hSw; have k0 := (hPr.out.below9 hSw.out).cell 0; have k1 := (hPr.out.below9 hSw.out).cell 1; have k2 := (hPr.out.below9 hSw.out).cell 2; have k3 := (hPr.out.below9 hSw.out).cell 3; have k4 := (hPr.out.below9 hSw.out).cell 4; go_simp; (try with_reducible rfl))
                    (try simp only [Act.put, List.getElem_toArray, List.getElem_cons_zero, List.getElem_cons_succ, List.setIfInBounds_toArray, List.set_cons_zero, List.set_cons_succ])
                    refine wpAnyH_ready (rs := [7]) (by kernel_rfl) (by simp) ?_
                    refine AllReadyH.cons rfl (fun K hK => ?_) AllReadyH.nil
                    go_simp
                    go_at_call 33
                    refine (stTerm_own x y z q n _).mono ?_
                    rintro e w1 ⟨rfl, hb1⟩
                    have HH := Lib.hid (hHeld.out.trans (hb1.mono hHeld.out.size))
                    have hW1 : Hid (w.heap.size ≤ w1.heap.size) := Nat.le_trans hb.size HH.out.size
                    clear hb1
                    refine hK.out _ _ HH (fun hH2 => ?_)
                    clear hK K hHeld hH2
                    have hHeld := HH
                    clear HH
                    (try simp only [Act.put, List.getElem_toArray, List.getElem_cons_zero, List.getElem_cons_succ, List.setIfInBounds_toArray, List.set_cons_zero, List.set_cons_succ])
                    refine wpAnyH_ready (rs := [8]) (by kernel_rfl) (by simp) ?_
                    refine AllReadyH.cons rfl (fun K hK => ?_) AllReadyH.nil
                    go_simp
                    have HH := Lib.hid (hHeld.out.alloc hHeld.out.size (.cells (termC 0 3 x y z q) 36))
                    refine hK.out _ _ HH (fun hH2 => ?_)
                    clear hK K hHeld hH2
                    have hHeld := HH
                    clear HH
                    (try simp only [Act.put, List.getElem_toArray, List.getElem_cons_zero, List.getElem_cons_succ, List.setIfInBounds_toArray, List.set_cons_zero, List.set_cons_succ])
                    refine wpAnyH_ready (rs := [9]) (by kernel_rfl) (by simp) ?_
                    refine AllReadyH.cons rfl (fun K hK => ?_) AllReadyH.nil
                    go_simp
                    have HH := Lib.hid (hHeld.out.alloc hHeld.out.size (.cells #[.slice (some ⟨w1.heap.size, 0, none⟩) 1 1] 59))
                    refine hK.out _ _ HH (fun hH2 => ?_)
                    clear hK K hHeld hH2
                    have hHeld := HH
                    clear HH
                    (try simp only [Act.put, List.getElem_toArray, List.getElem_cons_zero, List.getElem_cons_succ, List.setIfInBounds_toArray, List.set_cons_zero, List.set_cons_succ])
                    refine wpAnyH_ready (rs := [10]) (by kernel_rfl) (by simp) ?_
                    refine AllReadyH.cons rfl (fun K hK => ?_) AllReadyH.nil
                    have hwr := hHeld.out
                    refine step_append_grows rfl _ _ 50 rfl 59 j0 (.slice none 0 0) 1 24 Tryd.underlying50 gi gz0 gz1 gz2 rfl (by decide) (some ⟨gd, 0, none⟩) c.length c.length cs.flatten rfl (fun h => by cases h) HC2.out.2.2.1 (fun b e j u hj => by cases e; exact cellBS hwr (HC2.out.2.2.2.1 j u hj)) ⟨w1.heap.size + 1, 0, none⟩ 1 1 [.slice (some ⟨w1.heap.size, 0, none⟩) 1 1] rfl rfl (by have := cells_new (w1.alloc (.cells (termC 0 3 x y z q) 36)) #[.slice (some ⟨w1.heap.size, 0, none⟩) 1 1] 59; simpa using this) (fun u hu => by simp at hu; subst hu; rfl) (by omega) (by unfold maxLen; omega) (by omega) ?_
                    intro v9 w9 hown9 hg9
                    have b9 := Below.grown (Below.refl _ _) hg9 (Nat.le_refl _) (fun k h => by cases h)
                    have hE1 : RTmo w.heap.size ((w1.alloc (.cells (termC 0 3 x y z q) 36)).alloc (.cells #[.slice (some ⟨w1.heap.size, 0, none⟩) 1 1] 59)) [.slice (some ⟨w1.heap.size, 0, none⟩) 1 1] [(0, 3, x, y, z, q)] :=
                      ⟨_, rfl, (own_terms (l := [(0, 3, x, y, z, q)]) (World.ownsRow_lit (base := w1.heap.size) (e := 36) (size := 6) w1 (termC 0 3 x y z q) 1 (Nat.le_refl _) (by unfold maxLen; omega) rfl) rfl |>.below RTm.mono ((Below.refl _ _).alloc (Nat.le_refl _) _)).base (hW1.out)⟩
                    have HD9 := Lib.hid ((OwnOf.grow RTmo.mono (by rw [List.length_map]) HC2.out.1 HC2.out.2.1 (fun i x us h1 h2 => RTmo.mono _ _ _ _ hwr (HC2.out.2.2.2.2 i x us h1 h2)) b9 hown9 rfl hE1).base (B' := w.heap.size) (Nat.le_trans hb.size hwr.size))
                    have HH := Lib.hid (hwr.trans (b9.mono hwr.size))
                    clear hown9 hg9 b9 hE1 hwr
                    refine hK.out _ _ HH (fun hH2 => ?_)
                    clear hK K hHeld hH2
                    have hHeld := HH
                    clear HH
                    (try simp only [Act.put, List.getElem_toArray, List.getElem_cons_zero, List.getElem_cons_succ, List.setIfInBounds_toArray, List.set_cons_zero, List.set_cons_succ])
                    refine wpAnyH_ready (rs := [11]) (by kernel_rfl) (by simp) ?_
                    refine AllReadyH.cons rfl (fun K hK => ?_) AllReadyH.nil
                    go_simp
                    refine hK.out _ _ hHeld (fun hH2 => ?_)
                    clear hK K hH2
                    (try simp only [Act.put, List.getElem_toArray, List.getElem_cons_zero, List.getElem_cons_succ, List.setIfInBounds_toArray, List.set_cons_zero, List.set_cons_succ])
                    refine wpAnyH_done (by kernel_rfl) ?_ _
                    have HPr9 : Hid (PlainAt w9 w.heap.size (plainC x y z q n)) := hPr.out.below9 hHeld.out
                    have HB9 := Lib.hid (hb.trans (hHeld.out.mono hb.size))
                    have HD8 := Lib.hid (HOWN.out.below RTmo.mono hHeld.out)
                    obtain ⟨ao9, cap9, e9⟩ := HD9.out.sl.len
                    rw [show (c.map (· ++ l) ++ [[((0 : Int), (3 : Int), x, y, z, q)]]).length = c.length + 1 from by simp] at e9
                    subst e9
                    clear hHeld hPr hb HOWN HC2 hW1
                    go_wp2_with fail
                    have hx0 := hN.out.2.2.1
                    have hy0 := hN.out.2.2.2
                    have HTc := Lib.hid (tmsIn_ok (by omega) HOC.out)
                    have HTl := Lib.hid (tmsIn_ok (by omega) HOL.out)
                    have HKc := Lib.hid (checks_chk x y z q hx0 hy0 HSZ.out.1 HFC.out HOC.out hN.out.1)
                    have HKl := Lib.hid (checks_chk x y z q hx0 hy0 HSZ.out.1 (c := [l]) ⟨by simp, fun m hm => by rw [List.mem_singleton.1 hm]; exact HFL.out⟩ HOL.out (fun m hm => by rw [List.mem_singleton.1 hm]; exact hN.out.2.1))
                    have HTd := Lib.hid (tmsIn_app HOC.out HOL.out)
                    have HKd := Lib.hid (checks_app HKc.out HKl.out)
                    have HTo := Lib.hid (tmsIn_own HTd.out (by rw [List.length_map]; omega) x y z q)
                    have HKo := Lib.hid (checks_own HKd.out hx0 hy0 HSZ.out.1)
                    have HE9 := Lib.hid (he.out.below HB9.out)
                    have HI : pre = true ∨ ∀ t i j, chk x y z q t i = chk x y z q t j := hQ.out.symm.imp id (fun h t i j => chk_release x y z q h t i j)
                    have HO := Lib.hid (holdsT_own x y z q pre (c.map (· ++ l)))
                    have HA0 := Lib.hid (holdsT_distr HI c l)
                    obtain ⟨B, HB⟩ : ∃ B, Hid (holdsT (chk x y z q) pre c = B) := ⟨_, rfl⟩
                    obtain ⟨C, HC⟩ : ∃ C, Hid (holdsT (chk x y z q) pre [l] = C) := ⟨_, rfl⟩
                    have HA1 : Hid (holdsT (chk x y z q) pre (c.map (· ++ l)) = (B && C)) := by show _ = _; rw [HA0.out, HB.out, HC.out]
                    clear HI HA0 hx0 hy0
                    cases B with
                    | false =>
                      have HA : Hid (holdsT (chk x y z q) pre (c.map (· ++ l)) = false) := HA1
                      clear HA1
                      refine wp_region_held_drew (S := fun w' => Hid (Below w9.heap.size w9 w')) (by kernel_rfl) ?_ (fun hHeld => ?_)
                      · exact (Below.refl _ _).drew
                      refine wpAnyH_take (i := 0) (v := ?_) rfl (by kernel_rfl) (by kernel_rfl) (by kernel_rfl) (fun _ _ _ h => h) (Or.inl ⟨by rfl, ?_⟩) (by assumption) ?_
                      rotate_left
                      · (intro w hSw; go_simp; (try with_reducible rfl))
                      (try simp only [Act.put, List.getElem_toArray, List.getElem_cons_zero, List.getElem_cons_succ, List.setIfInBounds_toArray, List.set_cons_zero, List.set_cons_succ])
                      refine wpAnyH_take (i := 1) (v := ?_) rfl (by kernel_rfl) (by kernel_rfl) (by kernel_rfl) (fun _ _ _ h => h) (Or.inl ⟨by rfl, ?_⟩) (by assumption) ?_
                      rotate_left
                      · (intro w hSw; have k0 := (HPr9.out.below9 hSw.out).cell 0; have k1 := (HPr9.out.below9 hSw.out).cell 1; have k2 := (HPr9.out.below9 hSw.out).cell 2; have k3 := (HPr9.out.below9 hSw.out).cell 3; have k4 := (HPr9.out.below9 hSw.out).cell 4; go_simp; (try with_reducible rfl))
                      (try simp only [Act.put, List.getElem_toArray, List.getElem_cons_zero, List.getElem_cons_succ, List.setIfInBounds_toArray, List.set_cons_zero, List.set_cons_succ])
                      refine wpAnyH_take (i := 2) (v := ?_) rfl (by kernel_rfl) (by kernel_rfl) (by kernel_rfl) (fun _ _ _ h => h) (Or.inl ⟨by rfl, ?_⟩) (by assumption) ?_
                      rotate_left
                      · (intro w hSw; go_simp; (try with_reducible rfl))
                      (try simp only [Act.put, List.getElem_toArray, List.getElem_cons_zero, List.getElem_cons_succ, List.setIfInBounds_toArray, List.set_cons_zero, List.set_cons_succ])
                      refine wpAnyH_take (i := 4) (v := ?_) rfl (by kernel_rfl) (by kernel_rfl) (by kernel_rfl) (fun _ _ _ h => h) (Or.inl ⟨by rfl, ?_⟩) (by assumption) ?_
                      rotate_left
                      · (intro w hSw; go_simp; (try with_reducible rfl))
                      (try simp only [Act.put, List.getElem_toArray, List.getElem_cons_zero, List.getElem_cons_succ, List.setIfInBounds_toArray, List.set_cons_zero, List.set_cons_succ])
                      refine wpAnyH_take (i := 5) (v := ?_) rfl (by kernel_rfl) (by kernel_rfl) (by kernel_rfl) (fun _ _ _ h => h) (Or.inl ⟨by rfl, ?_⟩) (by assumption) ?_
                      rotate_left
                      · (intro w hSw; have k0 := (HPr9.out.below9 hSw.out).cell 0; have k1 := (HPr9.out.below9 hSw.out).cell 1; have k2 := (HPr9.out.below9 hSw.out).cell 2; have k3 := (HPr9.out.below9 hSw.out).cell 3; have k4 := (HPr9.out.below9 hSw.out).cell 4; go_simp; (try with_reducible rfl))
                      (try simp only [Act.put, List.getElem_toArray, List.getElem_cons_zero, List.getElem_cons_succ, List.setIfInBounds_toArray, List.set_cons_zero, List.set_cons_succ])
                      refine wpAnyH_take (i := 6) (v := ?_) rfl (by kernel_rfl) (by kernel_rfl) (by kernel_rfl) (fun _ _ _ h => h) (Or.inl ⟨by rfl, ?_⟩) (by assumption) ?_
                      rotate_left
                      · (intro w hSw; go_simp; (try with_reducible rfl))
                      (try simp only [Act.put, List.getElem_toArray, List.getElem_cons_zero, List.getElem_cons_succ, List.setIfInBounds_toArray, List.set_cons_zero, List.set_cons_succ])
                      refine wpAnyH_ready (rs := [3]) (by kernel_rfl) (by simp) ?_
                      refine AllReadyH.cons rfl (fun K hK => ?_) AllReadyH.nil
                      go_simp
                      go_at_call 47
                      refine (termsHold_any (chk x y z q) (c.map (· ++ l)) _ x y z q n pre _ (HD8.out.sl.imp (fun us m h => rtmo_rtms h) |>.below RTms.mono hHeld.out) (HE9.out.below hHeld.out) HTd HKd).mono ?_
                      rintro e w' ⟨ev, hb1⟩
                      rw [HA.out] at ev
                      subst ev
                      have HH := Lib.hid (hHeld.out.trans (hb1.mono hHeld.out.size))
                      clear hb1
                      refine hK.out _ _ HH (fun hH2 => ?_)
                      clear hK K hHeld hH2
                      have hHeld := HH
                      clear HH
                      (try simp only [Act.put, List.getElem_toArray, List.getElem_cons_zero, List.getElem_cons_succ, List.setIfInBounds_toArray, List.set_cons_zero, List.set_cons_succ])
                      refine wpAnyH_ready (rs := [7]) (by kernel_rfl) (by simp) ?_
                      refine AllReadyH.cons rfl (fun K hK => ?_) AllReadyH.nil
                      go_simp
                      go_at_call 47
                      refine (termsHold_any (chk x y z q) c _ x y z q n pre _ (hc.out.below RTms.mono (HB9.out.trans (hHeld.out.mono HB9.out.size))) (HE9.out.below hHeld.out) HTc HKc).mono ?_
                      rintro e w' ⟨ev, hb1⟩
                      rw [HB.out] at ev
                      subst ev
                      have HH := Lib.hid (hHeld.out.trans (hb1.mono hHeld.out.size))
                      clear hb1
                      refine hK.out _ _ HH (fun hH2 => ?_)
                      clear hK K hHeld hH2
                      have hHeld := HH
                      clear HH
                      (try simp only [Act.put, List.getElem_toArray, List.getElem_cons_zero, List.getElem_cons_succ, List.setIfInBounds_toArray, List.set_cons_zero, List.set_cons_succ])
                      refine wpAnyH_take (i := 8) (v := ?_) rfl (by kernel_rfl) (by kernel_rfl) (by kernel_rfl) (fun _ _ _ h => h) (Or.inl ⟨by rfl, ?_⟩) (by assumption) ?_
                      rotate_left
                      · (intro w hSw; go_simp; (try with_reducible rfl))
                      (try simp only [Act.put, List.getElem_toArray, List.getElem_cons_zero, List.getElem_cons_succ, List.setIfInBounds_toArray, List.set_cons_zero, List.set_cons_succ])
                      refine wpAnyH_take (i := 9) (v := undef) rfl (by kernel_rfl) (by kernel_rfl) (by kernel_rfl) (fun _ _ _ h => h) (Or.inr ⟨by rfl, rfl⟩) (by assumption) ?_
                      (try simp only [Act.put, List.getElem_toArray, List.getElem_cons_zero, List.getElem_cons_succ, List.setIfInBounds_toArray, List.set_cons_zero, List.set_cons_succ])
                      refine wpAnyH_take (i := 10) (v := undef) rfl (by kernel_rfl) (by kernel_rfl) (by kernel_rfl) (fun _ _ _ h => h) (Or.inr ⟨by rfl, rfl⟩) (by assumption) ?_
                      (try simp only [Act.put, List.getElem_toArray, List.getElem_cons_zero, List.getElem_cons_succ, List.setIfInBounds_toArray, List.set_cons_zero, List.set_cons_succ])
                      refine wpAnyH_take (i := 11) (v := undef) rfl (by kernel_rfl) (by kernel_rfl) (by kernel_rfl) (fun _ _ _ h => h) (Or.inr ⟨by rfl, rfl⟩) (by assumption) ?_
                      (try simp only [Act.put, List.getElem_toArray, List.getElem_cons_zero, List.getElem_cons_succ, List.setIfInBounds_toArray, List.set_cons_zero, List.set_cons_succ])
                      refine wpAnyH_take (i := 12) (v := undef) rfl (by kernel_rfl) (by kernel_rfl) (by kernel_rfl) (fun _ _ _ h => h) (Or.inr ⟨by rfl, rfl⟩) (by assumption) ?_
                      (try simp only [Act.put, List.getElem_toArray, List.getElem_cons_zero, List.getElem_cons_succ, List.setIfInBounds_toArray, List.set_cons_zero, List.set_cons_succ])
                      refine wpAnyH_take (i := 13) (v := undef) rfl (by kernel_rfl) (by kernel_rfl) (by kernel_rfl) (fun _ _ _ h => h) (Or.inr ⟨by rfl, rfl⟩) (by assumption) ?_
                      (try simp only [Act.put, List.getElem_toArray, List.getElem_cons_zero, List.getElem_cons_succ, List.setIfInBounds_toArray, List.set_cons_zero, List.set_cons_succ])
                      refine wpAnyH_take (i := 14) (v := ?_) rfl (by kernel_rfl) (by kernel_rfl) (by kernel_rfl) (fun _ _ _ h => h) (Or.inl ⟨by rfl, ?_⟩) (by assumption) ?_
                      rotate_left
                      · (intro w hSw; go_simp; (try with_reducible rfl))
                      (try simp only [Act.put, List.getElem_toArray, List.getElem_cons_zero, List.getElem_cons_succ, List.setIfInBounds_toArray, List.set_cons_zero, List.set_cons_succ])
                      refine wpAnyH_take (i := 15) (v := ?_) rfl (by kernel_rfl) (by kernel_rfl) (by kernel_rfl) (fun _ _ _ h => h) (Or.inl ⟨by rfl, ?_⟩) (by assumption) ?_
                      rotate_left
                      · (intro w hSw; go_simp; (try with_reducible rfl))
                      (try simp only [Act.put, List.getElem_toArray, List.getElem_cons_zero, List.getElem_cons_succ, List.setIfInBounds_toArray, List.set_cons_zero, List.set_cons_succ])
                      refine wpAnyH_take (i := 16) (v := ?_) rfl (by kernel_rfl) (by kernel_rfl) (by kernel_rfl) (fun _ _ _ h => h) (Or.inl ⟨by rfl, ?_⟩) (by assumption) ?_
                      rotate_left
                      · (intro w hSw; go_simp; (try with_reducible rfl))
                      (try simp only [Act.put, List.getElem_toArray, List.getElem_cons_zero, List.getElem_cons_succ, List.setIfInBounds_toArray, List.set_cons_zero, List.set_cons_succ])
                      refine wpAnyH_take (i := 17) (v := ?_) rfl (by kernel_rfl) (by kernel_rfl) (by kernel_rfl) (fun _ _ _ h => h) (Or.inl ⟨by rfl, ?_⟩) (by assumption) ?_
                      rotate_left
                      · (intro w hSw; go_simp; (try with_reducible rfl))
                      (try simp only [Act.put, List.getElem_toArray, List.getElem_cons_zero, List.getElem_cons_succ, List.setIfInBounds_toArray, List.set_cons_zero, List.set_cons_succ])
                      refine wpAnyH_take (i := 18) (v := ?_) rfl (by kernel_rfl) (by kernel_rfl) (by kernel_rfl) (fun _ _ _ h => h) (Or.inl ⟨by rfl, ?_⟩) (by assumption) ?_
                      rotate_left
                      · (intro w hSw; have k0 := (HPr9.out.below9 hSw.out).cell 0; have k1 := (HPr9.out.below9 hSw.out).cell 1; have k2 := (HPr9.out.below9 hSw.out).cell 2; have k3 := (HPr9.out.below9 hSw.out).cell 3; have k4 := (HPr9.out.below9 hSw.out).cell 4; go_simp; (try with_reducible rfl))
                      (try simp only [Act.put, List.getElem_toArray, List.getElem_cons_zero, List.getElem_cons_succ, List.setIfInBounds_toArray, List.set_cons_zero, List.set_cons_succ])
                      refine wpAnyH_take (i := 19) (v := ?_) rfl (by kernel_rfl) (by kernel_rfl) (by kernel_rfl) (fun _ _ _ h => h) (Or.inl ⟨by rfl, ?_⟩) (by assumption) ?_
                      rotate_left
                      · (intro w hSw; go_simp; (try with_reducible rfl))
                      (try simp only [Act.put, List.getElem_toArray, List.getElem_cons_zero, List.getElem_cons_succ, List.setIfInBounds_toArray, List.set_cons_zero, List.set_cons_succ])
                      refine wpAnyH_ready (rs := [20]) (by kernel_rfl) (by simp) ?_
                      refine AllReadyH.cons rfl (fun K hK => ?_) AllReadyH.nil
                      go_simp
                      go_at_call 47
                      refine (termsHold_any (chk x y z q) (c.map (· ++ l) ++ [[(0, 3, x, y, z, q)]]) _ x y z q n pre _ (HD9.out.sl.imp (fun us m h => rtmo_rtms h) |>.below RTms.mono hHeld.out) (HE9.out.below hHeld.out) HTo HKo).mono ?_
                      rintro e w' ⟨ev, hb1⟩
                      rw [HO.out] at ev
                      subst ev
                      have HH := Lib.hid (hHeld.out.trans (hb1.mono hHeld.out.size))
                      clear hb1
                      refine hK.out _ _ HH (fun hH2 => ?_)
                      clear hK K hHeld hH2
                      have hHeld := HH
                      clear HH
                      (try simp only [Act.put, List.getElem_toArray, List.getElem_cons_zero, List.getElem_cons_succ, List.setIfInBounds_toArray, List.set_cons_zero, List.set_cons_succ])
                      refine wpAnyH_take (i := 21) (v := ?_) rfl (by kernel_rfl) (by kernel_rfl) (by kernel_rfl) (fun _ _ _ h => h) (Or.inl ⟨by rfl, ?_⟩) (by assumption) ?_
                      rotate_left
                      · (intro w hSw; go_simp; (try with_reducible rfl))
                      (try simp only [Act.put, List.getElem_toArray, List.getElem_cons_zero, List.getElem_cons_succ, List.setIfInBounds_toArray, List.set_cons_zero, List.set_cons_succ])
                      refine wpAnyH_ready (rs := [22]) (by kernel_rfl) (by simp) ?_
                      refine AllReadyH.cons rfl (fun K hK => ?_) AllReadyH.nil
                      go_simp
                      refine hK.out _ _ hHeld (fun hH2 => ?_)
                      clear hK K hH2
                      (try simp only [Act.put, List.getElem_toArray, List.getElem_cons_zero, List.getElem_cons_succ, List.setIfInBounds_toArray, List.set_cons_zero, List.set_cons_succ])
                      refine wpAnyH_done (by kernel_rfl) ?_ _
                      go_wp2_with fail
                      go_ret
                      exact ⟨rfl, HB9.out.trans (hHeld.out.mono HB9.out.size)⟩
                    | true =>
                      have HA : Hid (holdsT (chk x y z q) pre (c.map (· ++ l)) = C) := HA1
                      clear HA1
                      cases C
                      all_goals
                        refine wp_region_held_drew (S := fun w' => Hid (Below w9.heap.size w9 w')) (by kernel_rfl) ?_ (fun hHeld => ?_)
                        · exact (Below.refl _ _).drew
                        refine wpAnyH_take (i := 0) (v := ?_) rfl (by kernel_rfl) (by kernel_rfl) (by kernel_rfl) (fun _ _ _ h => h) (Or.inl ⟨by rfl, ?_⟩) (by assumption) ?_
                        rotate_left
                        · (intro w hSw; go_simp; (try with_reducible rfl))
                        (try simp only [Act.put, List.getElem_toArray, List.getElem_cons_zero, List.getElem_cons_succ, List.setIfInBounds_toArray, List.set_cons_zero, List.set_cons_succ])
                        refine wpAnyH_take (i := 1) (v := ?_) rfl (by kernel_rfl) (by kernel_rfl) (by kernel_rfl) (fun _ _ _ h => h) (Or.inl ⟨by rfl, ?_⟩) (by assumption) ?_
                        rotate_left
                        · (intro w hSw; have k0 := (HPr9.out.below9 hSw.out).cell 0; have k1 := (HPr9.out.below9 hSw.out).cell 1; have k2 := (HPr9.out.below9 hSw.out).cell 2; have k3 := (HPr9.out.below9 hSw.out).cell 3; have k4 := (HPr9.out.below9 hSw.out).cell 4; go_simp; (try with_reducible rfl))
                        (try simp only [Act.put, List.getElem_toArray, List.getElem_cons_zero, List.getElem_cons_succ, List.setIfInBounds_toArray, List.set_cons_zero, List.set_cons_succ])
                        refine wpAnyH_take (i := 2) (v := ?_) rfl (by kernel_rfl) (by kernel_rfl) (by kernel_rfl) (fun _ _ _ h => h) (Or.inl ⟨by rfl, ?_⟩) (by assumption) ?_
                        rotate_left
                        · (intro w hSw; go_simp; (try with_reducible rfl))
                        (try simp only [Act.put, List.getElem_toArray, List.getElem_cons_zero, List.getElem_cons_succ, List.setIfInBounds_toArray, List.set_cons_zero, List.set_cons_succ])
                        refine wpAnyH_take (i := 4) (v := ?_) rfl (by kernel_rfl) (by kernel_rfl) (by kernel_rfl) (fun _ _ _ h => h) (Or.inl ⟨by rfl, ?_⟩) (by assumption) ?_
                        rotate_left
                        · (intro w hSw; go_simp; (try with_reducible rfl))
                        (try simp only [Act.put, List.getElem_toArray, List.getElem_cons_zero, List.getElem_cons_succ, List.setIfInBounds_toArray, List.set_cons_zero, List.set_cons_succ])
                        refine wpAnyH_take (i := 5) (v := ?_) rfl (by kernel_rfl) (by kernel_rfl) (by kernel_rfl) (fun _ _ _ h => h) (Or.inl ⟨by rfl, ?_⟩) (by assumption) ?_
                        rotate_left
                        · (intro w hSw; have k0 := (HPr9.out.below9 hSw.out).cell 0; have k1 := (HPr9.out.below9 hSw.out).cell 1; have k2 := (HPr9.out.below9 hSw.out).cell 2; have k3 := (HPr9.out.below9 hSw.out).cell 3; have k4 := (HPr9.out.below9 hSw.out).cell 4; go_simp; (try with_reducible rfl))
                        (try simp only [Act.put, List.getElem_toArray, List.getElem_cons_zero, List.getElem_cons_succ, List.setIfInBounds_toArray, List.set_cons_zero, List.set_cons_succ])
                        refine wpAnyH_take (i := 6) (v := ?_) rfl (by kernel_rfl) (by kernel_rfl) (by kernel_rfl) (fun _ _ _ h => h) (Or.inl ⟨by rfl, ?_⟩) (by assumption) ?_
                        rotate_left
                        · (intro w hSw; go_simp; (try with_reducible rfl))
                        (try simp only [Act.put, List.getElem_toArray, List.getElem_cons_zero, List.getElem_cons_succ, List.setIfInBounds_toArray, List.set_cons_zero, List.set_cons_succ])
                        refine wpAnyH_ready (rs := [3]) (by kernel_rfl) (by simp) ?_
                        refine AllReadyH.cons rfl (fun K hK => ?_) AllReadyH.nil
                        go_simp
                        go_at_call 47
                        refine (termsHold_any (chk x y z q) (c.map (· ++ l)) _ x y z q n pre _ (HD8.out.sl.imp (fun us m h => rtmo_rtms h) |>.below RTms.mono hHeld.out) (HE9.out.below hHeld.out) HTd HKd).mono ?_
                        rintro e w' ⟨ev, hb1⟩
                        rw [HA.out] at ev
                        subst ev
                        have HH := Lib.hid (hHeld.out.trans (hb1.mono hHeld.out.size))
                        clear hb1
                        refine hK.out _ _ HH (fun hH2 => ?_)
                        clear hK K hHeld hH2
                        have hHeld := HH
                        clear HH
                        (try simp only [Act.put, List.getElem_toArray, List.getElem_cons_zero, List.getElem_cons_succ, List.setIfInBounds_toArray, List.set_cons_zero, List.set_cons_succ])
                        refine wpAnyH_ready (rs := [7]) (by kernel_rfl) (by simp) ?_
                        refine AllReadyH.cons rfl (fun K hK => ?_) AllReadyH.nil
                        go_simp
                        go_at_call 47
                        refine (termsHold_any (chk x y z q) c _ x y z q n pre _ (hc.out.below RTms.mono (HB9.out.trans (hHeld.out.mono HB9.out.size))) (HE9.out.below hHeld.out) HTc HKc).mono ?_
                        rintro e w' ⟨ev, hb1⟩
                        rw [HB.out] at ev
                        subst ev
                        have HH := Lib.hid (hHeld.out.trans (hb1.mono hHeld.out.size))
                        clear hb1
                        refine hK.out _ _ HH (fun hH2 => ?_)
                        clear hK K hHeld hH2
                        have hHeld := HH
                        clear HH
                        (try simp only [Act.put, List.getElem_toArray, List.getElem_cons_zero, List.getElem_cons_succ, List.setIfInBounds_toArray, List.set_cons_zero, List.set_cons_succ])
                        refine wpAnyH_take (i := 8) (v := ?_) rfl (by kernel_rfl) (by kernel_rfl) (by kernel_rfl) (fun _ _ _ h => h) (Or.inl ⟨by rfl, ?_⟩) (by assumption) ?_
                        rotate_left
                        · (intro w hSw; go_simp; (try with_reducible rfl))
                        (try simp only [Act.put, List.getElem_toArray, List.getElem_cons_zero, List.getElem_cons_succ, List.setIfInBounds_toArray, List.set_cons_zero, List.set_cons_succ])
                        refine wpAnyH_take (i := 9) (v := ?_) rfl (by kernel_rfl) (by kernel_rfl) (by kernel_rfl) (fun _ _ _ h => h) (Or.inl ⟨by rfl, ?_⟩) (by assumption) ?_
                        rotate_left
                        · (intro w hSw; go_simp; (try with_reducible rfl))
                        (try simp only [Act.put, List.getElem_toArray, List.getElem_cons_zero, List.getElem_cons_succ, List.setIfInBounds_toArray, List.set_cons_zero, List.set_cons_succ])
                        refine wpAnyH_take (i := 11) (v := ?_) rfl (by kernel_rfl) (by kernel_rfl) (by kernel_rfl) (fun _ _ _ h => h) (Or.inl ⟨by rfl, ?_⟩) (by assumption) ?_
                        rotate_left
                        · (intro w hSw; have k0 := (HPr9.out.below9 hSw.out).cell 0; have k1 := (HPr9.out.below9 hSw.out).cell 1; have k2 := (HPr9.out.below9 hSw.out).cell 2; have k3 := (HPr9.out.below9 hSw.out).cell 3; have k4 := (HPr9.out.below9 hSw.out).cell 4; go_simp; (try with_reducible rfl))
                        (try simp only [Act.put, List.getElem_toArray, List.getElem_cons_zero, List.getElem_cons_succ, List.setIfInBounds_toArray, List.set_cons_zero, List.set_cons_succ])
                        refine wpAnyH_take (i := 12) (v := ?_) rfl (by kernel_rfl) (by kernel_rfl) (by kernel_rfl) (fun _ _ _ h => h) (Or.inl ⟨by rfl, ?_⟩) (by assumption) ?_
                        rotate_left
                        · (intro w hSw; go_simp; (try with_reducible rfl))
                        (try simp only [Act.put, List.getElem_toArray, List.getElem_cons_zero, List.getElem_cons_succ, List.setIfInBounds_toArray, List.set_cons_zero, List.set_cons_succ])
                        refine wpAnyH_ready (rs := [10]) (by kernel_rfl) (by simp) ?_
                        refine AllReadyH.cons rfl (fun K hK => ?_) AllReadyH.nil
                        go_simp
                        have HS1 := Lib.hid (slOne (hl.out.below RTm.mono (HB9.out.trans (hHeld.out.mono HB9.out.size))))
                        have HH := Lib.hid (hHeld.out.alloc hHeld.out.size (.cells #[.slice (some ⟨b1, off1, none⟩) l.length cap1] 59))
                        refine hK.out _ _ HH (fun hH2 => ?_)
                        clear hK K hHeld hH2
                        have hHeld := HH
                        clear HH
                        (try simp only [Act.put, List.getElem_toArray, List.getElem_cons_zero, List.getElem_cons_succ, List.setIfInBounds_toArray, List.set_cons_zero, List.set_cons_succ])
                        refine wpAnyH_ready (rs := [13]) (by kernel_rfl) (by simp) ?_
                        refine AllReadyH.cons rfl (fun K hK => ?_) AllReadyH.nil
                        go_simp
                        go_at_call 47
                        refine (termsHold_any (chk x y z q) [l] _ x y z q n pre _ HS1 (HE9.out.below hHeld.out) HTl HKl).mono ?_
                        rintro e w' ⟨ev, hb1⟩
                        rw [HC.out] at ev
                        subst ev
                        have HH := Lib.hid (hHeld.out.trans (hb1.mono hHeld.out.size))
                        clear hb1
                        refine hK.out _ _ HH (fun hH2 => ?_)
                        clear hK K hHeld hH2
                        have hHeld := HH
                        clear HH
                        (try simp only [Act.put, List.getElem_toArray, List.getElem_cons_zero, List.getElem_cons_succ, List.setIfInBounds_toArray, List.set_cons_zero, List.set_cons_succ])
                        refine wpAnyH_take (i := 14) (v := ?_) rfl (by kernel_rfl) (by kernel_rfl) (by kernel_rfl) (fun _ _ _ h => h) (Or.inl ⟨by rfl, ?_⟩) (by assumption) ?_
                        rotate_left
                        · (intro w hSw; go_simp; (try with_reducible rfl))
                        (try simp only [Act.put, List.getElem_toArray, List.getElem_cons_zero, List.getElem_cons_succ, List.setIfInBounds_toArray, List.set_cons_zero, List.set_cons_succ])
                        refine wpAnyH_take (i := 15) (v := ?_) rfl (by kernel_rfl) (by kernel_rfl) (by kernel_rfl) (fun _ _ _ h => h) (Or.inl ⟨by rfl, ?_⟩) (by assumption) ?_
                        rotate_left
                        · (intro w hSw; go_simp; (try with_reducible rfl))
                        (try simp only [Act.put, List.getElem_toArray, List.getElem_cons_zero, List.getElem_cons_succ, List.setIfInBounds_toArray, List.set_cons_zero, List.set_cons_succ])
                        refine wpAnyH_take (i := 16) (v := ?_) rfl (by kernel_rfl) (by kernel_rfl) (by kernel_rfl) (fun _ _ _ h => h) (Or.inl ⟨by rfl, ?_⟩) (by assumption) ?_
                        rotate_left
                        · (intro w hSw; go_simp; (try with_reducible rfl))
                        (try simp only [Act.put, List.getElem_toArray, List.getElem_cons_zero, List.getElem_cons_succ, List.setIfInBounds_toArray, List.set_cons_zero, List.set_cons_succ])
                        refine wpAnyH_take (i := 17) (v := ?_) rfl (by kernel_rfl) (by kernel_rfl) (by kernel_rfl) (fun _ _ _ h => h) (Or.inl ⟨by rfl, ?_⟩) (by assumption) ?_
                        rotate_left
                        · (intro w hSw; go_simp; (try with_reducible rfl))
                        (try simp only [Act.put, List.getElem_toArray, List.getElem_cons_zero, List.getElem_cons_succ, List.setIfInBounds_toArray, List.set_cons_zero, List.set_cons_succ])
                        refine wpAnyH_take (i := 18) (v := ?_) rfl (by kernel_rfl) (by kernel_rfl) (by kernel_rfl) (fun _ _ _ h => h) (Or.inl ⟨by rfl, ?_⟩) (by assumption) ?_
                        rotate_left
                        · (intro w hSw; have k0 := (HPr9.out.below9 hSw.out).cell 0; have k1 := (HPr9.out.below9 hSw.out).cell 1; have k2 := (HPr9.out.below9 hSw.out).cell 2; have k3 := (HPr9.out.below9 hSw.out).cell 3; have k4 := (HPr9.out.below9 hSw.out).cell 4; go_simp; (try with_reducible rfl))
                        (try simp only [Act.put, List.getElem_toArray, List.getElem_cons_zero, List.getElem_cons_succ, List.setIfInBounds_toArray, List.set_cons_zero, List.set_cons_succ])
                        refine wpAnyH_take (i := 19) (v := ?_) rfl (by kernel_rfl) (by kernel_rfl) (by kernel_rfl) (fun _ _ _ h => h) (Or.inl ⟨by rfl, ?_⟩) (by assumption) ?_
                        rotate_left
                        · (intro w hSw; go_simp; (try with_reducible rfl))
                        (try simp only [Act.put, List.getElem_toArray, List.getElem_cons_zero, List.getElem_cons_succ, List.setIfInBounds_toArray, List.set_cons_zero, List.set_cons_succ])
                        refine wpAnyH_ready (rs := [20]) (by kernel_rfl) (by simp) ?_
                        refine AllReadyH.cons rfl (fun K hK => ?_) AllReadyH.nil
                        go_simp
                        go_at_call 47
                        refine (termsHold_any (chk x y z q) (c.map (· ++ l) ++ [[(0, 3, x, y, z, q)]]) _ x y z q n pre _ (HD9.out.sl.imp (fun us m h => rtmo_rtms h) |>.below RTms.mono hHeld.out) (HE9.out.below hHeld.out) HTo HKo).mono ?_
                        rintro e w' ⟨ev, hb1⟩
                        rw [HO.out] at ev
                        subst ev
                        have HH := Lib.hid (hHeld.out.trans (hb1.mono hHeld.out.size))
                        clear hb1
                        refine hK.out _ _ HH (fun hH2 => ?_)
                        clear hK K hHeld hH2
                        have hHeld := HH
                        clear HH
                        (try simp only [Act.put, List.getElem_toArray, List.getElem_cons_zero, List.getElem_cons_succ, List.setIfInBounds_toArray, List.set_cons_zero, List.set_cons_succ])
                        refine wpAnyH_take (i := 21) (v := ?_) rfl (by kernel_rfl) (by kernel_rfl) (by kernel_rfl) (fun _ _ _ h => h) (Or.inl ⟨by rfl, ?_⟩) (by assumption) ?_
                        rotate_left
                        · (intro w hSw; go_simp; (try with_reducible rfl))
                        (try simp only [Act.put, List.getElem_toArray, List.getElem_cons_zero, List.getElem_cons_succ, List.setIfInBounds_toArray, List.set_cons_zero, List.set_cons_succ])
                        refine wpAnyH_ready (rs := [22]) (by kernel_rfl) (by simp) ?_
                        refine AllReadyH.cons rfl (fun K hK => ?_) AllReadyH.nil
                        go_simp
                        refine hK.out _ _ hHeld (fun hH2 => ?_)
                        clear hK K hH2
                        (try simp only [Act.put, List.getElem_toArray, List.getElem_cons_zero, List.getElem_cons_succ, List.setIfInBounds_toArray, List.set_cons_zero, List.set_cons_succ])
                        refine wpAnyH_done (by kernel_rfl) ?_ _
                        go_wp2_with fail
                        go_ret
                        exact ⟨rfl, HB9.out.trans (hHeld.out.mono HB9.out.size)⟩
              · go_wp2_with fail
                go_loopw [9, 51] (fun dv i wr => ∃ k : Nat, k ≤ c.length ∧ i = .int .i64 k ∧ OwnOf (RTmo w.heap.size) 1 w.heap.size 59 wr dv ((c.take k).map (· ++ l)) ∧ Hid (PlainAt wr w.heap.size (plainC x y z q n)) ∧ Below w.heap.size w wr) (fun _ i _ => c.length - (intOf i).toNat)
                case atStart => exact ⟨0, Nat.zero_le _, rfl, OwnOf.nil _ _ _ _ _, hP, bF⟩
                case round =>
                  obtain ⟨k, hk, rfl, hown, hPr, hb⟩ := hrel
                  clear p0 p1 p2 p3 p4
                  by_cases hkL : k < c.length
                  · obtain ⟨m, hm⟩ : ∃ m, c[k]? = some m := ⟨c[k], List.getElem?_eq_getElem hkL⟩
                    have hmO := HOC.out.2.2 m (List.mem_of_getElem? hm)
                    obtain ⟨ao3, cap3, hcs, hx3⟩ := hc.out
                    simp only [Value.slice.injEq, true_and] at hcs
                    obtain ⟨rfl, rfl⟩ := hcs
                    obtain ⟨ab, aoff, us, rfl, hz, hcell, u, rfl, hu⟩ := hx3 k m hm
                    have c0 := cellBS hb (hcell 0 u rfl)
                    simp only [Nat.mul_one, Nat.add_zero] at c0
                    obtain ⟨b2, off2, cap2, rfl, hsrc2⟩ := slTm_src (hu.below RTm.mono hb) hmO.1
                    have HM := Lib.hid hm
                    have hml := hmO.2.1
                    have HS2 := Lib.hid hsrc2
                    clear hsrc2 hu hcell hz hx3 hm hmO
                    have bA := (Below.refl wr.heap.size wr).alloc (Nat.le_refl _) (.cells #[] 36)
                    have how := World.ownsRow_lit (base := wr.heap.size) (e := 36) (size := 6) wr #[] 0 (Nat.le_refl _) (by unfold maxLen; omega) rfl
                    go_wp2_with (at_builtin; refine stop_here ?_)
                    unfold Stop
                    refine wpList_append_own _ rfl _ _ 59 rfl _ 36 i0 (.agg #[.int .i64 0, .int .i64 0, .int .u64 0, .int .u64 0, .int .u64 0, .string ByteArray.empty]) 6 56 Tryd.underlying59 hi hz0 hz1 hz2 rfl (by decide) _ _ _ rfl how ⟨b2, off2, none⟩ m.length cap2 (tmsL m) rfl (tmsL_len m) (fun j u h => cellBS bA (HS2.out j u h)) (tmsL_one m) ?_ ?_ ?_ ?_
                    · unfold maxLen; omega
                    · omega
                    · exact bA.size
                    intro v3 w3 hown3 hg3 _
                    have b3 := Below.grown bA hg3 bA.size (fun k hk => (how.lt k hk).1)
                    clear hg3 how bA
                    simp only [Array.toList_empty, List.nil_append, Nat.zero_add] at hown3
                    go_wp2_with (at_builtin; refine stop_here ?_)
                    unfold Stop
                    refine wpList_append_own _ rfl _ _ 59 rfl _ 36 i0 (.agg #[.int .i64 0, .int .i64 0, .int .u64 0, .int .u64 0, .int .u64 0, .string ByteArray.empty]) 6 56 Tryd.underlying59 hi hz0 hz1 hz2 rfl (by decide) _ _ _ rfl hown3 ⟨b1, off1, none⟩ l.length cap1 (tmsL l) rfl (tmsL_len l) (fun j u h => cellBS (hb.trans (b3.mono hb.size)) (HSRC.out j u h)) (tmsL_one l) ?_ ?_ ?_ ?_
                    · unfold maxLen; omega
                    · omega
                    · exact b3.size
                    intro v4 w4 hown4 hg4 _
                    have b4 := Below.grown b3 hg4 b3.size (fun k hk => (hown3.lt k hk).1)
                    rw [tmsL_app] at hown4
                    clear hg4 hown3 b3
                    obtain ⟨ao4, cap4, rfl⟩ := own_shape hown4
                    have HO4 := Lib.hid ((own_terms hown4 (by simp)).base (B' := w.heap.size) hb.size)
                    clear hown4
                    have hPr4 : Hid (PlainAt w4 w.heap.size (plainC x y z q n)) := hPr.out.below9 b4
                    have b5 := b4.alloc b4.size (.cells #[.slice ao4 (m.length + l.length) cap4] 59)
                    obtain ⟨cs, hcl2, hcz, hown5, hR⟩ := hown.below RTmo.mono b5
                    rw [List.length_map, List.length_take_of_le hk] at hown5 hcl2
                    go_wp2_with (at_builtin; refine stop_here ?_)
                    unfold Stop
                    refine wpList_append_own _ rfl _ _ 50 rfl _ 59 j0 (.slice none 0 0) 1 24 Tryd.underlying50 gi gz0 gz1 gz2 rfl (by decide) _ _ _ rfl hown5 ⟨w4.heap.size, 0, none⟩ 1 1 [.slice ao4 (m.length + l.length) cap4] rfl rfl (cells_new _ #[.slice ao4 (m.length + l.length) cap4] _) ?_ ?_ ?_ ?_ ?_
                    · intro u hu; simp at hu; subst hu; rfl
                    · unfold maxLen; omega
                    · omega
                    · exact Nat.le_trans hb.size b5.size
                    intro v6 w6 hown6 hg6 _
                    have hE := Exc.ofGrown hown5 hg6
                    have hp := OwnOf.push (RTmo.stab (B := w.heap.size) (e := 59) (by decide)) (by rw [List.length_map, List.length_take_of_le hk]) hcl2 hcz hown5 hR hg6 hown6 rfl ⟨_, rfl, HO4.out.below RTm.mono ((Below.refl _ _).alloc (Nat.le_refl _) _)⟩
                    have eq9 : (c.take k).map (· ++ l) ++ [m ++ l] = (c.take (k + 1)).map (· ++ l) := by rw [take_snoc c k _ HM.out, List.map_append]; rfl
                    rw [eq9] at hp
                    have b6 := Below.grown (hb.trans (b5.mono hb.size)) hg6 (Nat.le_trans hb.size b5.size) (fun k hk => (hown5.lt k hk).1)
                    have hP6 : Hid (PlainAt w6 w.heap.size (plainC x y z q n)) := hE _ _ _ _ (hPr4.out.below9 ((Below.refl _ _).alloc (Nat.le_refl _) _)) (by decide)
                    clear hg6 hown6 hown5 hR hcz hcl2 hE eq9 b4 b5 hown hPr
                    go_wp2_with fail
                    go_roundw
                    case rel => exact ⟨k + 1, by omega, by go_num, hp, hP6, b6⟩
                    case measure => simp [intOf]; omega
                  · obtain rfl : k = c.length := by omega
                    rw [List.take_length] at hown
                    have hce : (c.map (· ++ l)) ≠ [] := by intro e; exact HOC.out.1 (by simpa using e)
                    obtain ⟨gd, capd, cs, ed, hcd, hcl2, hcz, hclen, hccell, hR⟩ := own_block hown hce
                    rw [List.length_map] at ed hcd hcl2 hclen
                    subst ed
                    have HC2 := Lib.hid (And.intro hcl2 (And.intro hcz (And.intro hclen (And.intro hccell hR))))
                    have HOWN := Lib.hid hown
                    clear hcl2 hcz hclen hccell hR hown
                    go_wp2_with fail
                    refine wp_region_held_drew (S := fun w' => Hid (Below wr.heap.size wr w')) (by kernel_rfl) ?_ (fun hHeld => ?_)
                    · exact (Below.refl _ _).drew
                    refine wpAnyH_take (i := 0) (v := ?_) rfl (by kernel_rfl) (by kernel_rfl) (by kernel_rfl) (fun _ _ _ h => h) (Or.inl ⟨by rfl, ?_⟩) (by assumption) ?_
                    rotate_left
                    · (intro w hSw; go_simp; (try with_reducible rfl))
                    (try simp only [Act.put, List.getElem_toArray, List.getElem_cons_zero, List.getElem_cons_succ, List.setIfInBounds_toArray, List.set_cons_zero, List.set_cons_succ])
                    refine wpAnyH_take (i := 1) (v := ?_) rfl (by kernel_rfl) (by kernel_rfl) (by kernel_rfl) (fun _ _ _ h => h) (Or.inl ⟨by rfl, ?_⟩) (by assumption) ?_
                    rotate_left
                    · (intro w hSw; go_simp; (try with_reducible rfl))
                    (try simp only [Act.put, List.getElem_toArray, List.getElem_cons_zero, List.getElem_cons_succ, List.setIfInBounds_toArray, List.set_cons_zero, List.set_cons_succ])
                    refine wpAnyH_take (i := 2) (v := ?_) rfl (by kernel_rfl) (by kernel_rfl) (by kernel_rfl) (fun _ _ _ h => h) (Or.inl ⟨by rfl, ?_⟩) (by assumption) ?_
                    rotate_left
                    · (intro w hSw; go_simp; (try with_reducible rfl))
                    (try simp only [Act.put, List.getElem_toArray, List.getElem_cons_zero, List.getElem_cons_succ, List.setIfInBounds_toArray, List.set_cons_zero, List.set_cons_succ])
                    refine wpAnyH_take (i := 3) (v := ?_) rfl (by kernel_rfl) (by kernel_rfl) (by kernel_rfl) (fun _ _ _ h => h) (Or.inl ⟨by rfl, ?_⟩) (by assumption) ?_
                    rotate_left
                    · (intro w hSw; go_simp; (try with_reducible rfl))
                    (try simp only [Act.put, List.getElem_toArray, List.getElem_cons_zero, List.getElem_cons_succ, List.setIfInBounds_toArray, List.set_cons_zero, List.set_cons_succ])
                    refine wpAnyH_take (i := 4) (v := ?_) rfl (by kernel_rfl) (by kernel_rfl) (by kernel_rfl) (fun _ _ _ h => h) (Or.inl ⟨by rfl, ?_⟩) (by assumption) ?_
                    rotate_left
                    · (intro w hSw; go_simp; (try with_reducible rfl))
                    (try simp only [Act.put, List.getElem_toArray, List.getElem_cons_zero, List.getElem_cons_succ, List.setIfInBounds_toArray, List.set_cons_zero, List.set_cons_succ])
                    refine wpAnyH_take (i := 5) (v := ?_) rfl (by kernel_rfl) (by kernel_rfl) (by kernel_rfl) (fun _ _ _ h => h) (Or.inl ⟨by rfl, ?_⟩) (by assumption) ?_
                    rotate_left
                    · (intro w hSw; go_simp; (try with_reducible rfl))
                    (try simp only [Act.put, List.getElem_toArray, List.getElem_cons_zero, List.getElem_cons_succ, List.setIfInBounds_toArray, List.set_cons_zero, List.set_cons_succ])
                    refine wpAnyH_take (i := 6) (v := ?_) rfl (by kernel_rfl) (by kernel_rfl) (by kernel_rfl) (fun _ _ _ h => h) (Or.inl ⟨by rfl, ?_⟩) (by assumption) ?_
                    rotate_left
                    · (intro w hSw; have k0 := (hPr.out.below9 hSw.out).cell 0; have k1 := (hPr.out.below9 hSw.out).cell 1; have k2 := (hPr.out.below9 hSw.out).cell 2; have k3 := (hPr.out.below9 hSw.out).cell 3; have k4 := (hPr.out.below9 hSw.out).cell 4; go_simp; (try with_reducible rfl))
                    (try simp only [Act.put, List.getElem_toArray, List.getElem_cons_zero, List.getElem_cons_succ, List.setIfInBounds_toArray, List.set_cons_zero, List.set_cons_succ])
                    refine wpAnyH_ready (rs := [7]) (by kernel_rfl) (by simp) ?_
                    refine AllReadyH.cons rfl (fun K hK => ?_) AllReadyH.nil
                    go_simp
                    go_at_call 33
                    refine (stTerm_own x y z q n _).mono ?_
                    rintro e w1 ⟨rfl, hb1⟩
                    have HH := Lib.hid (hHeld.out.trans (hb1.mono hHeld.out.size))
                    have hW1 : Hid (w.heap.size ≤ w1.heap.size) := Nat.le_trans hb.size HH.out.size
                    clear hb1
                    refine hK.out _ _ HH (fun hH2 => ?_)
                    clear hK K hHeld hH2
                    have hHeld := HH
                    clear HH
                    (try simp only [Act.put, List.getElem_toArray, List.getElem_cons_zero, List.getElem_cons_succ, List.setIfInBounds_toArray, List.set_cons_zero, List.set_cons_succ])
                    refine wpAnyH_ready (rs := [8]) (by kernel_rfl) (by simp) ?_
                    refine AllReadyH.cons rfl (fun K hK => ?_) AllReadyH.nil
                    go_simp
                    have HH := Lib.hid (hHeld.out.alloc hHeld.out.size (.cells (termC 0 3 x y z q) 36))
                    refine hK.out _ _ HH (fun hH2 => ?_)
                    clear hK K hHeld hH2
                    have hHeld := HH
                    clear HH
                    (try simp only [Act.put, List.getElem_toArray, List.getElem_cons_zero, List.getElem_cons_succ, List.setIfInBounds_toArray, List.set_cons_zero, List.set_cons_succ])
                    refine wpAnyH_ready (rs := [9]) (by kernel_rfl) (by simp) ?_
                    refine AllReadyH.cons rfl (fun K hK => ?_) AllReadyH.nil
                    go_simp
                    have HH := Lib.hid (hHeld.out.alloc hHeld.out.size (.cells #[.slice (some ⟨w1.heap.size, 0, none⟩) 1 1] 59))
                    refine hK.out _ _ HH (fun hH2 => ?_)
                    clear hK K hHeld hH2
                    have hHeld := HH
                    clear HH
                    (try simp only [Act.put, List.getElem_toArray, List.getElem_cons_zero, List.getElem_cons_succ, List.setIfInBounds_toArray, List.set_cons_zero, List.set_cons_succ])
                    refine wpAnyH_ready (rs := [10]) (by kernel_rfl) (by simp) ?_
                    refine AllReadyH.cons rfl (fun K hK => ?_) AllReadyH.nil
                    have hwr := hHeld.out
                    refine step_append_grows rfl _ _ 50 rfl 59 j0 (.slice none 0 0) 1 24 Tryd.underlying50 gi gz0 gz1 gz2 rfl (by decide) (some ⟨gd, 0, none⟩) c.length c.length cs.flatten rfl (fun h => by cases h) HC2.out.2.2.1 (fun b e j u hj => by cases e; exact cellBS hwr (HC2.out.2.2.2.1 j u hj)) ⟨w1.heap.size + 1, 0, none⟩ 1 1 [.slice (some ⟨w1.heap.size, 0, none⟩) 1 1] rfl rfl (by have := cells_new (w1.alloc (.cells (termC 0 3 x y z q) 36)) #[.slice (some ⟨w1.heap.size, 0, none⟩) 1 1] 59; simpa using this) (fun u hu => by simp at hu; subst hu; rfl) (by omega) (by unfold maxLen; omega) (by omega) ?_
                    intro v9 w9 hown9 hg9
                    have b9 := Below.grown (Below.refl _ _) hg9 (Nat.le_refl _) (fun k h => by cases h)
                    have hE1 : RTmo w.heap.size ((w1.alloc (.cells (termC 0 3 x y z q) 36)).alloc (.cells #[.slice (some ⟨w1.heap.size, 0, none⟩) 1 1] 59)) [.slice (some ⟨w1.heap.size, 0, none⟩) 1 1] [(0, 3, x, y, z, q)] :=
                      ⟨_, rfl, (own_terms (l := [(0, 3, x, y, z, q)]) (World.ownsRow_lit (base := w1.heap.size) (e := 36) (size := 6) w1 (termC 0 3 x y z q) 1 (Nat.le_refl _) (by unfold maxLen; omega) rfl) rfl |>.below RTm.mono ((Below.refl _ _).alloc (Nat.le_refl _) _)).base (hW1.out)⟩
                    have HD9 := Lib.hid ((OwnOf.grow RTmo.mono (by rw [List.length_map]) HC2.out.1 HC2.out.2.1 (fun i x us h1 h2 => RTmo.mono _ _ _ _ hwr (HC2.out.2.2.2.2 i x us h1 h2)) b9 hown9 rfl hE1).base (B' := w.heap.size) (Nat.le_trans hb.size hwr.size))
                    have HH := Lib.hid (hwr.trans (b9.mono hwr.size))
                    clear hown9 hg9 b9 hE1 hwr
                    refine hK.out _ _ HH (fun hH2 => ?_)
                    clear hK K hHeld hH2
                    have hHeld := HH
                    clear HH
                    (try simp only [Act.put, List.getElem_toArray, List.getElem_cons_zero, List.getElem_cons_succ, List.setIfInBounds_toArray, List.set_cons_zero, List.set_cons_succ])
                    refine wpAnyH_ready (rs := [11]) (by kernel_rfl) (by simp) ?_
                    refine AllReadyH.cons rfl (fun K hK => ?_) AllReadyH.nil
                    go_simp
                    refine hK.out _ _ hHeld (fun hH2 => ?_)
                    clear hK K hH2
                    (try simp only [Act.put, List.getElem_toArray, List.getElem_cons_zero, List.getElem_cons_succ, List.setIfInBounds_toArray, List.set_cons_zero, List.set_cons_succ])
                    refine wpAnyH_done (by kernel_rfl) ?_ _
                    have HPr9 : Hid (PlainAt w9 w.heap.size (plainC x y z q n)) := hPr.out.below9 hHeld.out
                    have HB9 := Lib.hid (hb.trans (hHeld.out.mono hb.size))
                    have HD8 := Lib.hid (HOWN.out.below RTmo.mono hHeld.out)
                    obtain ⟨ao9, cap9, e9⟩ := HD9.out.sl.len
                    rw [show (c.map (· ++ l) ++ [[((0 : Int), (3 : Int), x, y, z, q)]]).length = c.length + 1 from by simp] at e9
                    subst e9
                    clear hHeld hPr hb HOWN HC2 hW1
                    go_wp2_with fail
                    have hx0 := hN.out.2.2.1
                    have hy0 := hN.out.2.2.2
                    have HTc := Lib.hid (tmsIn_ok (by omega) HOC.out)
                    have HTl := Lib.hid (tmsIn_ok (by omega) HOL.out)
                    have HKc := Lib.hid (checks_chk x y z q hx0 hy0 HSZ.out.1 HFC.out HOC.out hN.out.1)
                    have HKl := Lib.hid (checks_chk x y z q hx0 hy0 HSZ.out.1 (c := [l]) ⟨by simp, fun m hm => by rw [List.mem_singleton.1 hm]; exact HFL.out⟩ HOL.out (fun m hm => by rw [List.mem_singleton.1 hm]; exact hN.out.2.1))
                    have HTd := Lib.hid (tmsIn_app HOC.out HOL.out)
                    have HKd := Lib.hid (checks_app HKc.out HKl.out)
                    have HTo := Lib.hid (tmsIn_own HTd.out (by rw [List.length_map]; omega) x y z q)
                    have HKo := Lib.hid (checks_own HKd.out hx0 hy0 HSZ.out.1)
                    have HE9 := Lib.hid (he.out.below HB9.out)
                    have HI : true = true ∨ ∀ t i j, chk x y z q t i = chk x y z q t j := Or.inl rfl
                    have HO := Lib.hid (holdsT_own x y z q true (c.map (· ++ l)))
                    have HA0 := Lib.hid (holdsT_distr HI c l)
                    obtain ⟨B, HB⟩ : ∃ B, Hid (holdsT (chk x y z q) true c = B) := ⟨_, rfl⟩
                    obtain ⟨C, HC⟩ : ∃ C, Hid (holdsT (chk x y z q) true [l] = C) := ⟨_, rfl⟩
                    have HA1 : Hid (holdsT (chk x y z q) true (c.map (· ++ l)) = (B && C)) := by show _ = _; rw [HA0.out, HB.out, HC.out]
                    clear HI HA0 hx0 hy0
                    cases B with
                    | false =>
                      have HA : Hid (holdsT (chk x y z q) true (c.map (· ++ l)) = false) := HA1
                      clear HA1
                      refine wp_region_held_drew (S := fun w' => Hid (Below w9.heap.size w9 w')) (by kernel_rfl) ?_ (fun hHeld => ?_)
                      · exact (Below.refl _ _).drew
                      refine wpAnyH_take (i := 0) (v := ?_) rfl (by kernel_rfl) (by kernel_rfl) (by kernel_rfl) (fun _ _ _ h => h) (Or.inl ⟨by rfl, ?_⟩) (by assumption) ?_
                      rotate_left
                      · (intro w hSw; go_simp; (try with_reducible rfl))
                      (try simp only [Act.put, List.getElem_toArray, List.getElem_cons_zero, List.getElem_cons_succ, List.setIfInBounds_toArray, List.set_cons_zero, List.set_cons_succ])
                      refine wpAnyH_take (i := 1) (v := ?_) rfl (by kernel_rfl) (by kernel_rfl) (by kernel_rfl) (fun _ _ _ h => h) (Or.inl ⟨by rfl, ?_⟩) (by assumption) ?_
                      rotate_left
                      · (intro w hSw; have k0 := (HPr9.out.below9 hSw.out).cell 0; have k1 := (HPr9.out.below9 hSw.out).cell 1; have k2 := (HPr9.out.below9 hSw.out).cell 2; have k3 := (HPr9.out.below9 hSw.out).cell 3; have k4 := (HPr9.out.below9 hSw.out).cell 4; go_simp; (try with_reducible rfl))
                      (try simp only [Act.put, List.getElem_toArray, List.getElem_cons_zero, List.getElem_cons_succ, List.setIfInBounds_toArray, List.set_cons_zero, List.set_cons_succ])
                      refine wpAnyH_take (i := 2) (v := ?_) rfl (by kernel_rfl) (by kernel_rfl) (by kernel_rfl) (fun _ _ _ h => h) (Or.inl ⟨by rfl, ?_⟩) (by assumption) ?_
                      rotate_left
                      · (intro w hSw; go_simp; (try with_reducible rfl))
                      (try simp only [Act.put, List.getElem_toArray, List.getElem_cons_zero, List.getElem_cons_succ, List.setIfInBounds_toArray, List.set_cons_zero, List.set_cons_succ])
                      refine wpAnyH_take (i := 4) (v := ?_) rfl (by kernel_rfl) (by kernel_rfl) (by kernel_rfl) (fun _ _ _ h => h) (Or.inl ⟨by rfl, ?_⟩) (by assumption) ?_
                      rotate_left
                      · (intro w hSw; go_simp; (try with_reducible rfl))
                      (try simp only [Act.put, List.getElem_toArray, List.getElem_cons_zero, List.getElem_cons_succ, List.setIfInBounds_toArray, List.set_cons_zero, List.set_cons_succ])
                      refine wpAnyH_take (i := 5) (v := ?_) rfl (by kernel_rfl) (by kernel_rfl) (by kernel_rfl) (fun _ _ _ h => h) (Or.inl ⟨by rfl, ?_⟩) (by assumption) ?_
                      rotate_left
                      · (intro w hSw; have k0 := (HPr9.out.below9 hSw.out).cell 0; have k1 := (HPr9.out.below9 hSw.out).cell 1; have k2 := (HPr9.out.below9 hSw.out).cell 2; have k3 := (HPr9.out.below9 hSw.out).cell 3; have k4 := (HPr9.out.below9 hSw.out).cell 4; go_simp; (try with_reducible rfl))
                      (try simp only [Act.put, List.getElem_toArray, List.getElem_cons_zero, List.getElem_cons_succ, List.setIfInBounds_toArray, List.set_cons_zero, List.set_cons_succ])
                      refine wpAnyH_take (i := 6) (v := ?_) rfl (by kernel_rfl) (by kernel_rfl) (by kernel_rfl) (fun _ _ _ h => h) (Or.inl ⟨by rfl, ?_⟩) (by assumption) ?_
                      rotate_left
                      · (intro w hSw; go_simp; (try with_reducible rfl))
                      (try simp only [Act.put, List.getElem_toArray, List.getElem_cons_zero, List.getElem_cons_succ, List.setIfInBounds_toArray, List.set_cons_zero, List.set_cons_succ])
                      refine wpAnyH_ready (rs := [3]) (by kernel_rfl) (by simp) ?_
                      refine AllReadyH.cons rfl (fun K hK => ?_) AllReadyH.nil
                      go_simp
                      go_at_call 47
                      refine (termsHold_any (chk x y z q) (c.map (· ++ l)) _ x y z q n true _ (HD8.out.sl.imp (fun us m h => rtmo_rtms h) |>.below RTms.mono hHeld.out) (HE9.out.below hHeld.out) HTd HKd).mono ?_
                      rintro e w' ⟨ev, hb1⟩
                      rw [HA.out] at ev
                      subst ev
                      have HH := Lib.hid (hHeld.out.trans (hb1.mono hHeld.out.size))
                      clear hb1
                      refine hK.out _ _ HH (fun hH2 => ?_)
                      clear hK K hHeld hH2
                      have hHeld := HH
                      clear HH
                      (try simp only [Act.put, List.getElem_toArray, List.getElem_cons_zero, List.getElem_cons_succ, List.setIfInBounds_toArray, List.set_cons_zero, List.set_cons_succ])
                      refine wpAnyH_ready (rs := [7]) (by kernel_rfl) (by simp) ?_
                      refine AllReadyH.cons rfl (fun K hK => ?_) AllReadyH.nil
                      go_simp
                      go_at_call 47
                      refine (termsHold_any (chk x y z q) c _ x y z q n true _ (hc.out.below RTms.mono (HB9.out.trans (hHeld.out.mono HB9.out.size))) (HE9.out.below hHeld.out) HTc HKc).mono ?_
                      rintro e w' ⟨ev, hb1⟩
                      rw [HB.out] at ev
                      subst ev
                      have HH := Lib.hid (hHeld.out.trans (hb1.mono hHeld.out.size))
                      clear hb1
                      refine hK.out _ _ HH (fun hH2 => ?_)
                      clear hK K hHeld hH2
                      have hHeld := HH
                      clear HH
                      (try simp only [Act.put, List.getElem_toArray, List.getElem_cons_zero, List.getElem_cons_succ, List.setIfInBounds_toArray, List.set_cons_zero, List.set_cons_succ])
                      refine wpAnyH_take (i := 8) (v := ?_) rfl (by kernel_rfl) (by kernel_rfl) (by kernel_rfl) (fun _ _ _ h => h) (Or.inl ⟨by rfl, ?_⟩) (by assumption) ?_
                      rotate_left
                      · (intro w hSw; go_simp; (try with_reducible rfl))
                      (try simp only [Act.put, List.getElem_toArray, List.getElem_cons_zero, List.getElem_cons_succ, List.setIfInBounds_toArray, List.set_cons_zero, List.set_cons_succ])
                      refine wpAnyH_take (i := 9) (v := undef) rfl (by kernel_rfl) (by kernel_rfl) (by kernel_rfl) (fun _ _ _ h => h) (Or.inr ⟨by rfl, rfl⟩) (by assumption) ?_
                      (try simp only [Act.put, List.getElem_toArray, List.getElem_cons_zero, List.getElem_cons_succ, List.setIfInBounds_toArray, List.set_cons_zero, List.set_cons_succ])
                      refine wpAnyH_take (i := 10) (v := undef) rfl (by kernel_rfl) (by kernel_rfl) (by kernel_rfl) (fun _ _ _ h => h) (Or.inr ⟨by rfl, rfl⟩) (by assumption) ?_
                      (try simp only [Act.put, List.getElem_toArray, List.getElem_cons_zero, List.getElem_cons_succ, List.setIfInBounds_toArray, List.set_cons_zero, List.set_cons_succ])
                      refine wpAnyH_take (i := 11) (v := undef) rfl (by kernel_rfl) (by kernel_rfl) (by kernel_rfl) (fun _ _ _ h => h) (Or.inr ⟨by rfl, rfl⟩) (by assumption) ?_
                      (try simp only [Act.put, List.getElem_toArray, List.getElem_cons_zero, List.getElem_cons_succ, List.setIfInBounds_toArray, List.set_cons_zero, List.set_cons_succ])
                      refine wpAnyH_take (i := 12) (v := undef) rfl (by kernel_rfl) (by kernel_rfl) (by kernel_rfl) (fun _ _ _ h => h) (Or.inr ⟨by rfl, rfl⟩) (by assumption) ?_
                      (try simp only [Act.put, List.getElem_toArray, List.getElem_cons_zero, List.getElem_cons_succ, List.setIfInBounds_toArray, List.set_cons_zero, List.set_cons_succ])
                      refine wpAnyH_take (i := 13) (v := undef) rfl (by kernel_rfl) (by kernel_rfl) (by kernel_rfl) (fun _ _ _ h => h) (Or.inr ⟨by rfl, rfl⟩) (by assumption) ?_
                      (try simp only [Act.put, List.getElem_toArray, List.getElem_cons_zero, List.getElem_cons_succ, List.setIfInBounds_toArray, List.set_cons_zero, List.set_cons_succ])
                      refine wpAnyH_take (i := 14) (v := ?_) rfl (by kernel_rfl) (by kernel_rfl) (by kernel_rfl) (fun _ _ _ h => h) (Or.inl ⟨by rfl, ?_⟩) (by assumption) ?_
                      rotate_left
                      · (intro w hSw; go_simp; (try with_reducible rfl))
                      (try simp only [Act.put, List.getElem_toArray, List.getElem_cons_zero, List.getElem_cons_succ, List.setIfInBounds_toArray, List.set_cons_zero, List.set_cons_succ])
                      refine wpAnyH_take (i := 15) (v := ?_) rfl (by kernel_rfl) (by kernel_rfl) (by kernel_rfl) (fun _ _ _ h => h) (Or.inl ⟨by rfl, ?_⟩) (by assumption) ?_
                      rotate_left
                      · (intro w hSw; go_simp; (try with_reducible rfl))
                      (try simp only [Act.put, List.getElem_toArray, List.getElem_cons_zero, List.getElem_cons_succ, List.setIfInBounds_toArray, List.set_cons_zero, List.set_cons_succ])
                      refine wpAnyH_take (i := 16) (v := ?_) rfl (by kernel_rfl) (by kernel_rfl) (by kernel_rfl) (fun _ _ _ h => h) (Or.inl ⟨by rfl, ?_⟩) (by assumption) ?_
                      rotate_left
                      · (intro w hSw; go_simp; (try with_reducible rfl))
                      (try simp only [Act.put, List.getElem_toArray, List.getElem_cons_zero, List.getElem_cons_succ, List.setIfInBounds_toArray, List.set_cons_zero, List.set_cons_succ])
                      refine wpAnyH_take (i := 17) (v := ?_) rfl (by kernel_rfl) (by kernel_rfl) (by kernel_rfl) (fun _ _ _ h => h) (Or.inl ⟨by rfl, ?_⟩) (by assumption) ?_
                      rotate_left
                      · (intro w hSw; go_simp; (try with_reducible rfl))
                      (try simp only [Act.put, List.getElem_toArray, List.getElem_cons_zero, List.getElem_cons_succ, List.setIfInBounds_toArray, List.set_cons_zero, List.set_cons_succ])
                      refine wpAnyH_take (i := 18) (v := ?_) rfl (by kernel_rfl) (by kernel_rfl) (by kernel_rfl) (fun _ _ _ h => h) (Or.inl ⟨by rfl, ?_⟩) (by assumption) ?_
                      rotate_left
                      · (intro w hSw; have k0 := (HPr9.out.below9 hSw.out).cell 0; have k1 := (HPr9.out.below9 hSw.out).cell 1; have k2 := (HPr9.out.below9 hSw.out).cell 2; have k3 := (HPr9.out.below9 hSw.out).cell 3; have k4 := (HPr9.out.below9 hSw.out).cell 4; go_simp; (try with_reducible rfl))
                      (try simp only [Act.put, List.getElem_toArray, List.getElem_cons_zero, List.getElem_cons_succ, List.setIfInBounds_toArray, List.set_cons_zero, List.set_cons_succ])
                      refine wpAnyH_take (i := 19) (v := ?_) rfl (by kernel_rfl) (by kernel_rfl) (by kernel_rfl) (fun _ _ _ h => h) (Or.inl ⟨by rfl, ?_⟩) (by assumption) ?_
                      rotate_left
                      · (intro w hSw; go_simp; (try with_reducible rfl))
                      (try simp only [Act.put, List.getElem_toArray, List.getElem_cons_zero, List.getElem_cons_succ, List.setIfInBounds_toArray, List.set_cons_zero, List.set_cons_succ])
                      refine wpAnyH_ready (rs := [20]) (by kernel_rfl) (by simp) ?_
                      refine AllReadyH.cons rfl (fun K hK => ?_) AllReadyH.nil
                      go_simp
                      go_at_call 47
                      refine (termsHold_any (chk x y z q) (c.map (· ++ l) ++ [[(0, 3, x, y, z, q)]]) _ x y z q n true _ (HD9.out.sl.imp (fun us m h => rtmo_rtms h) |>.below RTms.mono hHeld.out) (HE9.out.below hHeld.out) HTo HKo).mono ?_
                      rintro e w' ⟨ev, hb1⟩
                      rw [HO.out] at ev
                      subst ev
                      have HH := Lib.hid (hHeld.out.trans (hb1.mono hHeld.out.size))
                      clear hb1
                      refine hK.out _ _ HH (fun hH2 => ?_)
                      clear hK K hHeld hH2
                      have hHeld := HH
                      clear HH
                      (try simp only [Act.put, List.getElem_toArray, List.getElem_cons_zero, List.getElem_cons_succ, List.setIfInBounds_toArray, List.set_cons_zero, List.set_cons_succ])
                      refine wpAnyH_take (i := 21) (v := ?_) rfl (by kernel_rfl) (by kernel_rfl) (by kernel_rfl) (fun _ _ _ h => h) (Or.inl ⟨by rfl, ?_⟩) (by assumption) ?_
                      rotate_left
                      · (intro w hSw; go_simp; (try with_reducible rfl))
                      (try simp only [Act.put, List.getElem_toArray, List.getElem_cons_zero, List.getElem_cons_succ, List.setIfInBounds_toArray, List.set_cons_zero, List.set_cons_succ])
                      refine wpAnyH_ready (rs := [22]) (by kernel_rfl) (by simp) ?_
                      refine AllReadyH.cons rfl (fun K hK => ?_) AllReadyH.nil
                      go_simp
                      refine hK.out _ _ hHeld (fun hH2 => ?_)
                      clear hK K hH2
                      (try simp only [Act.put, List.getElem_toArray, List.getElem_cons_zero, List.getElem_cons_succ, List.setIfInBounds_toArray, List.set_cons_zero, List.set_cons_succ])
                      refine wpAnyH_done (by kernel_rfl) ?_ _
                      go_wp2_with fail
                      go_ret
                      exact ⟨rfl, HB9.out.trans (hHeld.out.mono HB9.out.size)⟩
                    | true =>
                      have HA : Hid (holdsT (chk x y z q) true (c.map (· ++ l)) = C) := HA1
                      clear HA1
                      cases C
                      all_goals
                        refine wp_region_held_drew (S := fun w' => Hid (Below w9.heap.size w9 w')) (by kernel_rfl) ?_ (fun hHeld => ?_)
                        · exact (Below.refl _ _).drew
                        refine wpAnyH_take (i := 0) (v := ?_) rfl (by kernel_rfl) (by kernel_rfl) (by kernel_rfl) (fun _ _ _ h => h) (Or.inl ⟨by rfl, ?_⟩) (by assumption) ?_
                        rotate_left
                        · (intro w hSw; go_simp; (try with_reducible rfl))
                        (try simp only [Act.put, List.getElem_toArray, List.getElem_cons_zero, List.getElem_cons_succ, List.setIfInBounds_toArray, List.set_cons_zero, List.set_cons_succ])
                        refine wpAnyH_take (i := 1) (v := ?_) rfl (by kernel_rfl) (by kernel_rfl) (by kernel_rfl) (fun _ _ _ h => h) (Or.inl ⟨by rfl, ?_⟩) (by assumption) ?_
                        rotate_left
                        · (intro w hSw; have k0 := (HPr9.out.below9 hSw.out).cell 0; have k1 := (HPr9.out.below9 hSw.out).cell 1; have k2 := (HPr9.out.below9 hSw.out).cell 2; have k3 := (HPr9.out.below9 hSw.out).cell 3; have k4 := (HPr9.out.below9 hSw.out).cell 4; go_simp; (try with_reducible rfl))
                        (try simp only [Act.put, List.getElem_toArray, List.getElem_cons_zero, List.getElem_cons_succ, List.setIfInBounds_toArray, List.set_cons_zero, List.set_cons_succ])
                        refine wpAnyH_take (i := 2) (v := ?_) rfl (by kernel_rfl) (by kernel_rfl) (by kernel_rfl) (fun _ _ _ h => h) (Or.inl ⟨by rfl, ?_⟩) (by assumption) ?_
                        rotate_left
                        · (intro w hSw; go_simp; (try with_reducible rfl))
                        (try simp only [Act.put, List.getElem_toArray, List.getElem_cons_zero, List.getElem_cons_succ, List.setIfInBounds_toArray, List.set_cons_zero, List.set_cons_succ])
                        refine wpAnyH_take (i := 4) (v := ?_) rfl (by kernel_rfl) (by kernel_rfl) (by kernel_rfl) (fun _ _ _ h => h) (Or.inl ⟨by rfl, ?_⟩) (by assumption) ?_
                        rotate_left
                        · (intro w hSw; go_simp; (try with_reducible rfl))
                        (try simp only [Act.put, List.getElem_toArray, List.getElem_cons_zero, List.getElem_cons_succ, List.setIfInBounds_toArray, List.set_cons_zero, List.set_cons_succ])
                        refine wpAnyH_take (i := 5) (v := ?_) rfl (by kernel_rfl) (by kernel_rfl) (by kernel_rfl) (fun _ _ _ h => h) (Or.inl ⟨by rfl, ?_⟩) (by assumption) ?_
                        rotate_left
                        · (intro w hSw; have k0 := (HPr9.out.below9 hSw.out).cell 0; have k1 := (HPr9.out.below9 hSw.out).cell 1; have k2 := (HPr9.out.below9 hSw.out).cell 2; have k3 := (HPr9.out.below9 hSw.out).cell 3; have k4 := (HPr9.out.below9 hSw.out).cell 4; go_simp; (try with_reducible rfl))
                        (try simp only [Act.put, List.getElem_toArray, List.getElem_cons_zero, List.getElem_cons_succ, List.setIfInBounds_toArray, List.set_cons_zero, List.set_cons_succ])
                        refine wpAnyH_take (i := 6) (v := ?_) rfl (by kernel_rfl) (by kernel_rfl) (by kernel_rfl) (fun _ _ _ h => h) (Or.inl ⟨by rfl, ?_⟩) (by assumption) ?_
                        rotate_left
                        · (intro w hSw; go_simp; (try with_reducible rfl))
                        (try simp only [Act.put, List.getElem_toArray, List.getElem_cons_zero, List.getElem_cons_succ, List.setIfInBounds_toArray, List.set_cons_zero, List.set_cons_succ])
                        refine wpAnyH_ready (rs := [3]) (by kernel_rfl) (by simp) ?_
                        refine AllReadyH.cons rfl (fun K hK => ?_) AllReadyH.nil
                        go_simp
                        go_at_call 47
                        refine (termsHold_any (chk x y z q) (c.map (· ++ l)) _ x y z q n true _ (HD8.out.sl.imp (fun us m h => rtmo_rtms h) |>.below RTms.mono hHeld.out) (HE9.out.below hHeld.out) HTd HKd).mono ?_
                        rintro e w' ⟨ev, hb1⟩
                        rw [HA.out] at ev
                        subst ev
                        have HH := Lib.hid (hHeld.out.trans (hb1.mono hHeld.out.size))
                        clear hb1
                        refine hK.out _ _ HH (fun hH2 => ?_)
                        clear hK K hHeld hH2
                        have hHeld := HH
                        clear HH
                        (try simp only [Act.put, List.getElem_toArray, List.getElem_cons_zero, List.getElem_cons_succ, List.setIfInBounds_toArray, List.set_cons_zero, List.set_cons_succ])
                        refine wpAnyH_ready (rs := [7]) (by kernel_rfl) (by simp) ?_
                        refine AllReadyH.cons rfl (fun K hK => ?_) AllReadyH.nil
                        go_simp
                        go_at_call 47
                        refine (termsHold_any (chk x y z q) c _ x y z q n true _ (hc.out.below RTms.mono (HB9.out.trans (hHeld.out.mono HB9.out.size))) (HE9.out.below hHeld.out) HTc HKc).mono ?_
                        rintro e w' ⟨ev, hb1⟩
                        rw [HB.out] at ev
                        subst ev
                        have HH := Lib.hid (hHeld.out.trans (hb1.mono hHeld.out.size))
                        clear hb1
                        refine hK.out _ _ HH (fun hH2 => ?_)
                        clear hK K hHeld hH2
                        have hHeld := HH
                        clear HH
                        (try simp only [Act.put, List.getElem_toArray, List.getElem_cons_zero, List.getElem_cons_succ, List.setIfInBounds_toArray, List.set_cons_zero, List.set_cons_succ])
                        refine wpAnyH_take (i := 8) (v := ?_) rfl (by kernel_rfl) (by kernel_rfl) (by kernel_rfl) (fun _ _ _ h => h) (Or.inl ⟨by rfl, ?_⟩) (by assumption) ?_
                        rotate_left
                        · (intro w hSw; go_simp; (try with_reducible rfl))
                        (try simp only [Act.put, List.getElem_toArray, List.getElem_cons_zero, List.getElem_cons_succ, List.setIfInBounds_toArray, List.set_cons_zero, List.set_cons_succ])
                        refine wpAnyH_take (i := 9) (v := ?_) rfl (by kernel_rfl) (by kernel_rfl) (by kernel_rfl) (fun _ _ _ h => h) (Or.inl ⟨by rfl, ?_⟩) (by assumption) ?_
                        rotate_left
                        · (intro w hSw; go_simp; (try with_reducible rfl))
                        (try simp only [Act.put, List.getElem_toArray, List.getElem_cons_zero, List.getElem_cons_succ, List.setIfInBounds_toArray, List.set_cons_zero, List.set_cons_succ])
                        refine wpAnyH_take (i := 11) (v := ?_) rfl (by kernel_rfl) (by kernel_rfl) (by kernel_rfl) (fun _ _ _ h => h) (Or.inl ⟨by rfl, ?_⟩) (by assumption) ?_
                        rotate_left
                        · (intro w hSw; have k0 := (HPr9.out.below9 hSw.out).cell 0; have k1 := (HPr9.out.below9 hSw.out).cell 1; have k2 := (HPr9.out.below9 hSw.out).cell 2; have k3 := (HPr9.out.below9 hSw.out).cell 3; have k4 := (HPr9.out.below9 hSw.out).cell 4; go_simp; (try with_reducible rfl))
                        (try simp only [Act.put, List.getElem_toArray, List.getElem_cons_zero, List.getElem_cons_succ, List.setIfInBounds_toArray, List.set_cons_zero, List.set_cons_succ])
                        refine wpAnyH_take (i := 12) (v := ?_) rfl (by kernel_rfl) (by kernel_rfl) (by kernel_rfl) (fun _ _ _ h => h) (Or.inl ⟨by rfl, ?_⟩) (by assumption) ?_
                        rotate_left
                        · (intro w hSw; go_simp; (try with_reducible rfl))
                        (try simp only [Act.put, List.getElem_toArray, List.getElem_cons_zero, List.getElem_cons_succ, List.setIfInBounds_toArray, List.set_cons_zero, List.set_cons_succ])
                        refine wpAnyH_ready (rs := [10]) (by kernel_rfl) (by simp) ?_
                        refine AllReadyH.cons rfl (fun K hK => ?_) AllReadyH.nil
                        go_simp
                        have HS1 := Lib.hid (slOne (hl.out.below RTm.mono (HB9.out.trans (hHeld.out.mono HB9.out.size))))
                        have HH := Lib.hid (hHeld.out.alloc hHeld.out.size (.cells #[.slice (some ⟨b1, off1, none⟩) l.length cap1] 59))
                        refine hK.out _ _ HH (fun hH2 => ?_)
                        clear hK K hHeld hH2
                        have hHeld := HH
                        clear HH
                        (try simp only [Act.put, List.getElem_toArray, List.getElem_cons_zero, List.getElem_cons_succ, List.setIfInBounds_toArray, List.set_cons_zero, List.set_cons_succ])
                        refine wpAnyH_ready (rs := [13]) (by kernel_rfl) (by simp) ?_
                        refine AllReadyH.cons rfl (fun K hK => ?_) AllReadyH.nil
                        go_simp
                        go_at_call 47
                        refine (termsHold_any (chk x y z q) [l] _ x y z q n true _ HS1 (HE9.out.below hHeld.out) HTl HKl).mono ?_
                        rintro e w' ⟨ev, hb1⟩
                        rw [HC.out] at ev
                        subst ev
                        have HH := Lib.hid (hHeld.out.trans (hb1.mono hHeld.out.size))
                        clear hb1
                        refine hK.out _ _ HH (fun hH2 => ?_)
                        clear hK K hHeld hH2
                        have hHeld := HH
                        clear HH
                        (try simp only [Act.put, List.getElem_toArray, List.getElem_cons_zero, List.getElem_cons_succ, List.setIfInBounds_toArray, List.set_cons_zero, List.set_cons_succ])
                        refine wpAnyH_take (i := 14) (v := ?_) rfl (by kernel_rfl) (by kernel_rfl) (by kernel_rfl) (fun _ _ _ h => h) (Or.inl ⟨by rfl, ?_⟩) (by assumption) ?_
                        rotate_left
                        · (intro w hSw; go_simp; (try with_reducible rfl))
                        (try simp only [Act.put, List.getElem_toArray, List.getElem_cons_zero, List.getElem_cons_succ, List.setIfInBounds_toArray, List.set_cons_zero, List.set_cons_succ])
                        refine wpAnyH_take (i := 15) (v := ?_) rfl (by kernel_rfl) (by kernel_rfl) (by kernel_rfl) (fun _ _ _ h => h) (Or.inl ⟨by rfl, ?_⟩) (by assumption) ?_
                        rotate_left
                        · (intro w hSw; go_simp; (try with_reducible rfl))
                        (try simp only [Act.put, List.getElem_toArray, List.getElem_cons_zero, List.getElem_cons_succ, List.setIfInBounds_toArray, List.set_cons_zero, List.set_cons_succ])
                        refine wpAnyH_take (i := 16) (v := ?_) rfl (by kernel_rfl) (by kernel_rfl) (by kernel_rfl) (fun _ _ _ h => h) (Or.inl ⟨by rfl, ?_⟩) (by assumption) ?_
                        rotate_left
                        · (intro w hSw; go_simp; (try with_reducible rfl))
                        (try simp only [Act.put, List.getElem_toArray, List.getElem_cons_zero, List.getElem_cons_succ, List.setIfInBounds_toArray, List.set_cons_zero, List.set_cons_succ])
                        refine wpAnyH_take (i := 17) (v := ?_) rfl (by kernel_rfl) (by kernel_rfl) (by kernel_rfl) (fun _ _ _ h => h) (Or.inl ⟨by rfl, ?_⟩) (by assumption) ?_
                        rotate_left
                        · (intro w hSw; go_simp; (try with_reducible rfl))
                        (try simp only [Act.put, List.getElem_toArray, List.getElem_cons_zero, List.getElem_cons_succ, List.setIfInBounds_toArray, List.set_cons_zero, List.set_cons_succ])
                        refine wpAnyH_take (i := 18) (v := ?_) rfl (by kernel_rfl) (by kernel_rfl) (by kernel_rfl) (fun _ _ _ h => h) (Or.inl ⟨by rfl, ?_⟩) (by assumption) ?_
                        rotate_left
                        · (intro w hSw; have k0 := (HPr9.out.below9 hSw.out).cell 0; have k1 := (HPr9.out.below9 hSw.out).cell 1; have k2 := (HPr9.out.below9 hSw.out).cell 2; have k3 := (HPr9.out.below9 hSw.out).cell 3; have k4 := (HPr9.out.below9 hSw.out).cell 4; go_simp; (try with_reducible rfl))
                        (try simp only [Act.put, List.getElem_toArray, List.getElem_cons_zero, List.getElem_cons_succ, List.setIfInBounds_toArray, List.set_cons_zero, List.set_cons_succ])
                        refine wpAnyH_take (i := 19) (v := ?_) rfl (by kernel_rfl) (by kernel_rfl) (by kernel_rfl) (fun _ _ _ h => h) (Or.inl ⟨by rfl, ?_⟩) (by assumption) ?_
                        rotate_left
                        · (intro w hSw; go_simp; (try with_reducible rfl))
                        (try simp only [Act.put, List.getElem_toArray, List.getElem_cons_zero, List.getElem_cons_succ, List.setIfInBounds_toArray, List.set_cons_zero, List.set_cons_succ])
                        refine wpAnyH_ready (rs := [20]) (by kernel_rfl) (by simp) ?_
                        refine AllReadyH.cons rfl (fun K hK => ?_) AllReadyH.nil
                        go_simp
                        go_at_call 47
                        refine (termsHold_any (chk x y z q) (c.map (· ++ l) ++ [[(0, 3, x, y, z, q)]]) _ x y z q n true _ (HD9.out.sl.imp (fun us m h => rtmo_rtms h) |>.below RTms.mono hHeld.out) (HE9.out.below hHeld.out) HTo HKo).mono ?_
                        rintro e w' ⟨ev, hb1⟩
                        rw [HO.out] at ev
                        subst ev
                        have HH := Lib.hid (hHeld.out.trans (hb1.mono hHeld.out.size))
                        clear hb1
                        refine hK.out _ _ HH (fun hH2 => ?_)
                        clear hK K hHeld hH2
                        have hHeld := HH
                        clear HH
                        (try simp only [Act.put, List.getElem_toArray, List.getElem_cons_zero, List.getElem_cons_succ, List.setIfInBounds_toArray, List.set_cons_zero, List.set_cons_succ])
                        refine wpAnyH_take (i := 21) (v := ?_) rfl (by kernel_rfl) (by kernel_rfl) (by kernel_rfl) (fun _ _ _ h => h) (Or.inl ⟨by rfl, ?_⟩) (by assumption) ?_
                        rotate_left
                        · (intro w hSw; go_simp; (try with_reducible rfl))
                        (try simp only [Act.put, List.getElem_toArray, List.getElem_cons_zero, List.getElem_cons_succ, List.setIfInBounds_toArray, List.set_cons_zero, List.set_cons_succ])
                        refine wpAnyH_ready (rs := [22]) (by kernel_rfl) (by simp) ?_
                        refine AllReadyH.cons rfl (fun K hK => ?_) AllReadyH.nil
                        go_simp
                        refine hK.out _ _ hHeld (fun hH2 => ?_)
                        clear hK K hH2
                        (try simp only [Act.put, List.getElem_toArray, List.getElem_cons_zero, List.getElem_cons_succ, List.setIfInBounds_toArray, List.set_cons_zero, List.set_cons_succ])
                        refine wpAnyH_done (by kernel_rfl) ?_ _
                        go_wp2_with fail
                        go_ret
                        exact ⟨rfl, HB9.out.trans (hHeld.out.mono HB9.out.size)⟩
            · cases gg with
              | false =>
                go_wp2_with fail
                go_ret
                exact ⟨rfl, bF⟩
              | true =>
                cases qe with
                | true => exact absurd ⟨rfl, Or.inl rfl⟩ hgo
                | false =>
                  cases pre with
                  | true => exact absurd ⟨rfl, Or.inr rfl⟩ hgo
                  | false =>
                    go_wp2_with fail
                    go_ret
                    exact ⟨rfl, bF⟩

theorem distr_law (c : List (List Tm)) (v1 : Value) (l : List Tm) (v2 : Value) (x y z : Int) (q n : ByteArray) (pre : Bool) (_wx : (Lit.int .u64 x).wf = true) (_wy : (Lit.int .u64 y).wf = true) (_wz : (Lit.int .u64 z).wf = true) (_wq : q.size ≤ maxLen) (_wn : n.size ≤ maxLen) (w : World) (he : Hid (Errs w)) (hc : SlOf RTms 1 w v1 c) (hN : ∀ m ∈ c, ∀ t ∈ m, NumT t) (hl : SlOf RTm 6 w v2 l) (hM : ∀ t ∈ l, NumT t) :
    Calls Tryd.prog 13 #[v1, v2, .agg #[.int .u64 x, .int .u64 y, .int .u64 z, .string q, .string n], .bool pre] w fun e w' => e = .returned (.bool true) ∧ Below w.heap.size w w' :=
  distr_walk c l v1 v2 x y z q n pre w hc hl ⟨hN, hM, (wf0 _wx).1, (wf0 _wy).1⟩ he
end Go.Proofs.YtdlpcfhhpjjjmaaDoor
