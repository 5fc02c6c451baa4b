/- laws.FnCronItemsAnyOrder. -/
import Derived.Test.YtkhggefbkhdimaaDoorFdX
namespace Go.Proofs.YtkhggefbkhdimaaDoor
open Go.RowKit Go.Shelf
set_option linter.unusedVariables false
set_option linter.unusedSimpArgs false

theorem swap_mem {α : Type} (l : List α) (i j : Nat) (hi : i < l.length) (hj : j < l.length) (x : α) : x ∈ (l.set i l[j]).set j l[i] ↔ x ∈ l := by
  constructor
  · intro h
    rcases List.mem_or_eq_of_mem_set h with h | h
    · rcases List.mem_or_eq_of_mem_set h with h | h
      · exact h
      · rw [h]; exact List.getElem_mem _
    · rw [h]; exact List.getElem_mem _
  · intro h
    obtain ⟨k, hk, rfl⟩ := List.mem_iff_getElem.1 h
    by_cases hki : k = i
    · subst hki
      exact List.mem_iff_getElem.2 ⟨j, by simpa using hj, by simp⟩
    · by_cases hkj : k = j
      · subst hkj
        by_cases hij : i = k
        · exact absurd hij.symm hki
        · exact List.mem_iff_getElem.2 ⟨i, by simpa using hi, by rw [List.getElem_set_ne (Ne.symm hij)]; simp⟩
      · exact List.mem_iff_getElem.2 ⟨k, by simpa using hk, by rw [List.getElem_set_ne (Ne.symm hkj), List.getElem_set_ne (Ne.symm hki)]⟩
theorem strs_open2 {w : World} {ao : Option Addr} {n cap : Nat} {l : List ByteArray} (h : SlOf RStr 1 w (.slice ao n cap) l) (hl : l ≠ []) :
    ∃ b off, ao = some ⟨b, off, none⟩ ∧ ∀ i x, l[i]? = some x → w.cell? ⟨b, off + i, none⟩ = some (.string x) := by
  obtain ⟨b, off, c, hv, hc⟩ := strs_open h hl
  injection hv with hv
  exact ⟨b, off, hv, hc⟩
theorem ints_open2 {w : World} {ao : Option Addr} {n cap : Nat} {l : List Int} (h : SlOf RInt 1 w (.slice ao n cap) l) (hl : l ≠ []) :
    ∃ b off, ao = some ⟨b, off, none⟩ ∧ ∀ i x, l[i]? = some x → w.cell? ⟨b, off + i, none⟩ = some (.int .i64 x) := by
  obtain ⟨b, off, c, hv, hc⟩ := ints_open h hl
  injection hv with hv
  exact ⟨b, off, hv, hc⟩
theorem strs_cell {w : World} {B g cap : Nat} {O : List ByteArray} (h : w.ownsRow B 9 1 (.slice (some ⟨g, 0, none⟩) O.length cap) O.length (strsV O)) (i : Nat) (hi : i < O.length) : w.cell? ⟨g, i, none⟩ = some (.string O[i]) := by
  rw [h.cellAt i (by omega)]
  simp [strsV, hi]
theorem strsV_set (O : List ByteArray) (i : Nat) (x : ByteArray) : strsV (O.set i x) = (strsV O).set i (.string x) := by simp [strsV, List.map_set]
/-- How far the other list has come. -/
def OthR (B : Nat) (L : List ByteArray) (n j : Nat) (w : World) (v : Value) (wr : World) : Prop := ∃ O : List ByteArray, wr.ownsRow B 9 1 v O.length (strsV O) ∧ n ≤ O.length ∧ O.length ≤ n + j ∧ (∀ p, p ∈ O ↔ p ∈ L) ∧ Below B w wr

theorem OthR.drew {B : Nat} {L : List ByteArray} {n j : Nat} {w : World} {v : Value} {wr : World} (h : OthR B L n j w v wr) : OthR B L n j w v wr.drew := by
  obtain ⟨O, h1, h2, h3, h4, h5⟩ := h
  exact ⟨O, h1.drew, h2, h3, h4, h5.drew⟩
theorem sl_own {w : World} {B : Nat} {v : Value} {O : List ByteArray} (h : w.ownsRow B 9 1 v O.length (strsV O)) (ho : O ≠ []) : SlOf RStr 1 w v O := by
  obtain ⟨g, cap, rfl, _, _, hc⟩ := own_open h ho
  refine ⟨_, cap, rfl, fun i x hi => ⟨g, 0, [.string x], rfl, rfl, fun j u hj => ?_, rfl⟩⟩
  have hil := (List.getElem?_eq_some_iff.1 hi).1
  have := hc i hil
  rcases j with _ | j
  · have e := Option.some.inj hj
    subst e
    simp only [Nat.zero_add, Nat.mul_one, Nat.add_zero]
    rw [this]
    simp [List.getD, hi]
  · simp at hj
theorem joinC_len : ∀ (ps : List (List UInt8)), (∀ p ∈ ps, p.length ≤ 32) → (joinC ps).length ≤ 33 * ps.length
  | [], _ => Nat.zero_le _
  | [p], h => by have := h p (by simp); simp only [joinC, List.length_cons, List.length_nil]; omega
  | p :: q :: ps, h => by
    unfold joinC
    have h1 := h p (by simp)
    have h2 := joinC_len (q :: ps) (fun x hx => h x (by simp [hx]))
    simp only [List.length_append, List.length_cons] at h2 ⊢
    omega
/-- Lists of the same items mean the same. -/
theorem order_plain (k : Nat) (L O : List ByteArray) (hL : ∀ s ∈ L, oneB s = true) (hne : L ≠ []) (hm : ∀ p, p ∈ O ↔ p ∈ L) : fieldJ k (joinC (datas O)) = fieldJ k (joinC (datas L)) := by
  have hOne : O ≠ [] := by
    cases L with
    | nil => exact absurd rfl hne
    | cons a r =>
      intro h
      have := (hm a).2 (by simp)
      rw [h] at this
      cases this
  have cut : ∀ X : List ByteArray, X ≠ [] → (∀ s ∈ X, oneB s = true) → (cutL 44 (joinC (datas X))).filter (fun z => !z.isEmpty) = datas X := by
    intro X hX hg
    have hd : datas X ≠ [] := by unfold datas; simpa using hX
    rw [cut_join (datas X) hd (fun p hp x hx => by
      unfold datas at hp
      obtain ⟨s, hs, rfl⟩ := List.mem_map.1 hp
      exact (oneB_true s (hg s hs)).2 x hx)]
    refine List.filter_eq_self.2 (fun p hp => ?_)
    unfold datas at hp
    obtain ⟨s, hs, rfl⟩ := List.mem_map.1 hp
    have := (oneB_true s (hg s hs)).1
    cases h : s.data.toList with
    | nil => exact absurd h this
    | cons a b => rfl
  unfold fieldJ
  rw [cut L hne hL, cut O hOne (fun s hs => hL s ((hm s).1 hs))]
  refine fieldI_mem _ _ _ (fun p => ?_)
  unfold datas
  rw [List.mem_map, List.mem_map]
  exact ⟨fun ⟨s, hs, e⟩ => ⟨s, (hm s).1 hs, e⟩, fun ⟨s, hs, e⟩ => ⟨s, (hm s).2 hs, e⟩⟩

set_option maxRecDepth 100000 in
set_option maxHeartbeats 8000000 in
theorem law_anyOrder (kind : Int) (L : List ByteArray) (a1 : Value) (ord : List Int) (a2 : Value) (wk : (Lit.int .i64 kind).wf = true) (w : World) (he : Hid (Errs w)) (s1 : SlOf RStr 1 w a1 L) (n1 : ∀ s ∈ L, s.size ≤ maxLen) (s2 : SlOf RInt 1 w a2 ord) (n2 : ∀ i ∈ ord, (Lit.int .i64 i).wf = true) :
    Calls Tryd.prog 4 #[.int .i64 kind, a1, a2] w fun e w' => e = .returned (.bool true) ∧ Below w.heap.size w w' := by
  obtain ⟨i0, hi, hz0, hz1, hz2⟩ := info_parts Tryd.infoStr
  have hfit := fits2_any a1 L w s1
  have HFit := Lib.hid hfit
  clear hfit
  obtain ⟨ao1, cap1, rfl⟩ := s1.len
  obtain ⟨ao2, cap2, rfl⟩ := s2.len
  obtain ⟨n, hn⟩ : ∃ n, n = L.length := ⟨_, rfl⟩
  obtain ⟨m, hm⟩ : ∃ m, m = ord.length := ⟨_, rfl⟩
  rw [← hn] at HFit ⊢
  rw [← hm]
  have HN := Lib.hid hn
  have HM := Lib.hid hm
  have S1 : Hid (SlOf RStr 1 w (.slice ao1 n cap1) L) := Lib.hid (by rw [hn]; exact s1)
  have S2 : Hid (SlOf RInt 1 w (.slice ao2 m cap2) ord) := Lib.hid (by rw [hm]; exact s2)
  have N1 := Lib.hid n1
  clear hn hm s1 s2 n1 n2
  have hik := isKind_any kind
  have HK := Lib.hid hik
  clear hik
  by_cases hm1 : 2147483647 < m
  · have q1 : decide ((2147483647 : Int) < (m : Int)) = true := decide_eq_true (by omega)
    go_enter Tryd.func4, Tryd.ntmps4
    go_wp2_with fail
    refine HFit.out.mono ?_
    rintro e w' ⟨⟨bf, rfl⟩, rfl⟩
    cases bf
    all_goals
      go_wp2_with fail
      go_ret
      exact ⟨rfl, Below.refl _ _⟩
  · have q1 : decide ((2147483647 : Int) < (m : Int)) = false := decide_eq_false (by omega)
    by_cases hgood : isKindB kind = true ∧ n ≠ 0 ∧ n ≤ 64 ∧ m ≤ 64
    · obtain ⟨hkb, hn0, hn64, hm64⟩ := hgood
      rw [hkb] at HK
      obtain ⟨k, rfl⟩ : ∃ k : Nat, kind = k := ⟨kind.toNat, by unfold isKindB at hkb; simp at hkb; omega⟩
      have hk : k < 6 := by unfold isKindB at hkb; simp at hkb; omega
      clear hkb wk
      have hLne : L ≠ [] := fun h => by have := HN.out; rw [h] at this; exact hn0 this
      obtain ⟨b1, o1, hv1, hcell1⟩ := strs_open2 S1.out hLne
      subst hv1
      have HC1 := Lib.hid hcell1
      clear hcell1
      have q2 : ((n : Int) == 0) = false := by simp only [beq_eq_false_iff_ne]; omega
      have q3 : decide ((64 : Int) < (n : Int)) = false := decide_eq_false (by omega)
      have q4 : decide ((64 : Int) < (m : Int)) = false := decide_eq_false (by omega)
      go_enter Tryd.func4, Tryd.ntmps4
      go_wp2_with fail
      refine HFit.out.mono ?_
      rintro e w' ⟨⟨bf, rfl⟩, rfl⟩
      cases bf with
      | false =>
        go_wp2_with fail
        go_ret
        exact ⟨rfl, Below.refl _ _⟩
      | true =>
        go_wp2_with (first | (go_at_call 6; refine (HK.out _).mono ?_; rintro e w' ⟨rfl, rfl⟩) | (at_builtin; refine stop_here ?_))
        unfold Stop
        have hownE : (w.alloc (.cells #[] 9)).ownsRow w.heap.size 9 1 (.slice (some ⟨w.heap.size, 0, none⟩) 0 0) 0 [] := World.ownsRow_lit w #[] 0 (Nat.le_refl _) (by decide) (by decide)
        refine wpList_append_own _ rfl _ _ 36 rfl w.heap.size 9 i0 (.string ByteArray.empty) 1 16 Tryd.underlying36 hi hz0 hz1 hz2 rfl (by decide) _ _ _ rfl hownE ⟨b1, o1, none⟩ n cap1 (strsV L) rfl (by rw [HN.out]; simp [strsV]) ?_ ?_ ?_ ?_ ?_ ?_
        · intro j u hj
          rw [add_add0]
          have hj2 : j < (strsV L).length := (List.getElem?_eq_some_iff.1 hj).1
          have hj3 : j < L.length := by simpa [strsV] using hj2
          have hx := HC1.out j L[j] (List.getElem?_eq_getElem hj3)
          have hu : u = .string L[j] := by
            have := (List.getElem?_eq_some_iff.1 hj).2
            rw [← this]
            simp [strsV]
          rw [hu]
          exact keepV hx
        · intro u hu
          unfold strsV at hu
          obtain ⟨s, _, rfl⟩ := List.mem_map.1 hu
          rfl
        · unfold maxLen; omega
        · omega
        · simp
        intro v' w2 hown2 hgrow2 _
        have b2 : Below w.heap.size w w2 := Below.grown ((Below.refl _ _).alloc (Nat.le_refl _) _) hgrow2 (by simp) (fun k hk => (hownE.lt k hk).1)
        have HO : Hid (OthR w.heap.size L n 0 w v' w2) := Lib.hid ⟨L, by have h9 := hown2; rw [Nat.zero_add, List.nil_append, HN.out] at h9; exact h9, by rw [HN.out]; exact Nat.le_refl _, by rw [HN.out]; exact Nat.le_refl _, fun p => Iff.rfl, b2⟩
        clear hgrow2 hown2 hownE b2
        go_wp2_with fail
        go_loopw [7, 50] (fun v7 i wr => ∃ j : Nat, j ≤ m ∧ i = .int .i64 j ∧ Hid (OthR w.heap.size L n j w v7 wr)) (fun _ i _ => m - (intOf i).toNat)
        case atStart => exact ⟨0, by omega, rfl, HO⟩
        case round =>
          obtain ⟨j, hj, rfl, hO⟩ := hrel
          have hO9 := hO.out
          obtain ⟨O, hown, hO1, hO2, hO3, hbr⟩ := hO9
          have hOne : O ≠ [] := fun h => by rw [h] at hO1; simp at hO1; exact hn0 hO1
          obtain ⟨g, cap, rfl, hcg, hcm, hcell⟩ := own_open hown hOne
          have HB := Lib.hid hbr
          have HOW := Lib.hid hown
          have HO3 := Lib.hid hO3
          clear hbr hO3 hO
          by_cases hlt : j < m
          · have hlp : j < ord.length := by rw [← HM.out]; exact hlt
            obtain ⟨b2, o2, hv2, hcell2⟩ := ints_open2 S2.out (fun h => by rw [h] at hlp; simp at hlp)
            subst hv2
            obtain ⟨x, hx⟩ : ∃ x, ord[j]? = some x := ⟨_, List.getElem?_eq_getElem hlp⟩
            have hy : wr.cell? ⟨b2, o2 + j, none⟩ = some (.int .i64 x) := (HB.out.cell (cellLt (hcell2 j x hx))).trans (hcell2 j x hx)
            clear hcell2 hx hlp hown
            by_cases hx0 : x < 0
            · have g1 : decide (x < 0) = true := decide_eq_true hx0
              clear hcell
              go_wp2_with fail
              go_ret
              exact ⟨rfl, HB.out⟩
            · have g1 : decide (x < 0) = false := decide_eq_false hx0
              by_cases hxn : (n : Int) ≤ x
              · have g2 : decide ((n : Int) ≤ x) = true := decide_eq_true hxn
                clear hcell
                go_wp2_with fail
                go_ret
                exact ⟨rfl, HB.out⟩
              · have g2 : decide ((n : Int) ≤ x) = false := decide_eq_false hxn
                obtain ⟨q, rfl⟩ : ∃ q : Nat, x = q := ⟨x.toNat, by omega⟩
                have hqn : q < n := by omega
                clear hx0 hxn
                by_cases hjn : j < n
                · have g3 : decide ((j : Int) < (n : Int)) = true := decide_eq_true (by omega)
                  have hjO : j < O.length := by omega
                  have hqO : q < O.length := by omega
                  have yj := strs_cell HOW.out j hjO
                  have yq := strs_cell HOW.out q hqO
                  have fj := HOW.out.frozenAt j
                  have fq := HOW.out.frozenAt q
                  have HSM := Lib.hid (swap_mem O j q hjO hqO)
                  obtain ⟨xj, hxj⟩ : ∃ xj, xj = O[j] := ⟨_, rfl⟩
                  obtain ⟨xq, hxq⟩ : ∃ xq, xq = O[q] := ⟨_, rfl⟩
                  rw [← hxj] at yj HSM
                  rw [← hxq] at yq HSM
                  have HST1 := Lib.hid (HOW.out.stored j (.string xq))
                  have HST2 := Lib.hid (HST1.out.1.stored q (.string xj))
                  have hq9 : ∃ V, (wr.setCell ⟨g, j, none⟩ (.string xq)).cell? ⟨g, q, none⟩ = some V := by
                    rw [HST1.out.1.cellAt q (by omega)]
                    exact ⟨_, List.getElem?_eq_getElem (by simp [strsV]; omega)⟩
                  obtain ⟨V, hV⟩ := hq9
                  have hVf := HST1.out.1.frozenAt q
                  have HNX : Hid (OthR w.heap.size L n (j + 1) w (.slice (some ⟨g, 0, none⟩) O.length cap) ((wr.setCell ⟨g, j, none⟩ (.string xq)).setCell ⟨g, q, none⟩ (.string xj))) := Lib.hid (by
                    refine ⟨(O.set j xq).set q xj, ?_, by simpa using hO1, by simp; omega, fun p => (HSM.out p).trans (HO3.out p), ?_⟩
                    · have h9 := HST2.out.1
                      rw [strsV_set, strsV_set]
                      simpa using h9
                    · have hlo := (HOW.out.lt g rfl).1
                      exact (HB.out.setCell hlo _).setCell hlo _)
                  clear hxj hxq hcell
                  go_wp2_with fail
                  go_region
                  go_wp2_with fail
                  go_roundw
                  case rel => exact ⟨j + 1, by omega, by go_num, Lib.hid HNX.out.drew⟩
                  case measure => simp [intOf]; omega
                · have g3 : decide ((j : Int) < (n : Int)) = false := decide_eq_false (by omega)
                  have hql : q < L.length := by rw [← HN.out]; exact hqn
                  obtain ⟨xq, hxq⟩ : ∃ xq, L[q]? = some xq := ⟨_, List.getElem?_eq_getElem hql⟩
                  have yq : wr.cell? ⟨b1, o1 + q, none⟩ = some (.string xq) := (HB.out.cell (cellLt (HC1.out q xq hxq))).trans (HC1.out q xq hxq)
                  have HXM : Hid (xq ∈ L) := Lib.hid (List.mem_of_getElem? hxq)
                  clear hxq hql hcell
                  go_wp2_with (at_builtin; refine stop_here ?_)
                  unfold Stop
                  refine wpList_append_own _ rfl _ _ 36 rfl w.heap.size 9 i0 (.string ByteArray.empty) 1 16 Tryd.underlying36 hi hz0 hz1 hz2 rfl (by decide) _ _ _ rfl (HOW.out.alloc _) ⟨wr.heap.size, 0, none⟩ 1 1 [_] rfl rfl (cell_one_new _ _ _) ?_ ?_ ?_ ?_ ?_
                  · intro u hu; rw [List.mem_singleton] at hu; subst hu; rfl
                  · unfold maxLen; omega
                  · omega
                  · have := HB.out.size; simp; omega
                  intro v' w3 hown3 hgrow3 _
                  have b3 : Below w.heap.size w w3 := Below.grown (HB.out.alloc HB.out.size _) hgrow3 (by have := HB.out.size; simp; omega) (fun k hk => (HOW.out.lt k hk).1)
                  have HNX : Hid (OthR w.heap.size L n (j + 1) w v' w3) := Lib.hid ⟨O ++ [xq], by
                    have h9 := hown3
                    rw [show O.length + 1 = (O ++ [xq]).length from by simp] at h9
                    simpa [strsV] using h9, by simp; omega, by simp; omega, fun p => by
                    rw [List.mem_append, List.mem_singleton]
                    exact ⟨fun h => h.elim (fun h => (HO3.out p).1 h) (fun h => by rw [h]; exact HXM.out), fun h => Or.inl ((HO3.out p).2 h)⟩, b3⟩
                  clear hgrow3 hown3 b3
                  go_wp2_with fail
                  go_roundw
                  case rel => exact ⟨j + 1, by omega, by go_num, HNX⟩
                  case measure => simp [intOf]; omega
          · have hjm : j = m := by omega
            have HO2 := Lib.hid hO2
            have HO1 := Lib.hid hO1
            have HOne := Lib.hid hOne
            have hOlen : O.length ≤ 128 := by omega
            clear hown hcell hO1 hO2 hOne hjm
            have HCr : Hid (∀ i x, L[i]? = some x → wr.cell? ⟨b1, o1 + i, none⟩ = some (.string x)) := Lib.hid (fun i x h => (HB.out.cell (cellLt (HC1.out i x h))).trans (HC1.out i x h))
            have HEr : Hid (Errs wr) := Lib.hid (he.out.below HB.out)
            go_wp2_with fail
            go_loop [91] (fun i => ∃ j : Nat, j ≤ n ∧ i = .int .i64 j ∧ Hid (∀ (i : Nat) (x : ByteArray), i < j → L[i]? = some x → oneB x = true ∧ x.size ≤ 32)) (fun i => n - (intOf i).toNat)
            case atStart => exact ⟨0, by omega, rfl, Lib.hid (fun i x h => absurd h (Nat.not_lt_zero i))⟩
            case round =>
              obtain ⟨p, hp, rfl, hG⟩ := hrel
              by_cases hlt2 : p < n
              · have hpl : p < L.length := by rw [← HN.out]; exact hlt2
                obtain ⟨x, hx⟩ : ∃ x, L[p]? = some x := ⟨_, List.getElem?_eq_getElem hpl⟩
                have hy := HCr.out p x hx
                have hxz : x.size ≤ 9223372036854775807 := by have := N1.out x (List.mem_of_getElem? hx); unfold maxLen at this; omega
                have HX := Lib.hid hx
                clear hx hpl
                have HOI := Lib.hid (oneItem_any x hxz)
                cases hob : (oneB x && decide (x.size ≤ 65536)) with
                | false =>
                  rw [hob] at HOI
                  clear hob
                  go_wp2_with (first | (go_at_call 12; refine (HOI.out _).mono ?_; rintro e w' ⟨rfl, rfl⟩))
                  go_ret
                  exact ⟨rfl, HB.out⟩
                | true =>
                  have HOB := Lib.hid hob
                  rw [hob] at HOI
                  clear hob
                  by_cases h32 : 32 < x.size
                  · have g4 : decide ((32 : Int) < (x.size : Int)) = true := decide_eq_true (by omega)
                    go_wp2_with (first | (go_at_call 12; refine (HOI.out _).mono ?_; rintro e w' ⟨rfl, rfl⟩))
                    go_ret
                    exact ⟨rfl, HB.out⟩
                  · have g4 : decide ((32 : Int) < (x.size : Int)) = false := decide_eq_false (by omega)
                    have HG2 : Hid (∀ (i : Nat) (y : ByteArray), i < p + 1 → L[i]? = some y → oneB y = true ∧ y.size ≤ 32) := Lib.hid (fun i y hi hy2 => by
                      rcases Nat.lt_or_ge i p with c | c
                      · exact hG.out i y c hy2
                      · have e : i = p := by omega
                        rw [e, HX.out] at hy2
                        have e2 := Option.some.inj hy2
                        rw [← e2]
                        have := HOB.out
                        rw [Bool.and_eq_true] at this
                        exact ⟨this.1, by omega⟩)
                    go_wp2_with (first | (go_at_call 12; refine (HOI.out _).mono ?_; rintro e w' ⟨rfl, rfl⟩))
                    go_round
                    case rel => exact ⟨p + 1, by omega, by go_num, HG2⟩
                    case measure => simp [intOf]; omega
              · have HG : Hid (∀ s ∈ L, oneB s = true ∧ s.size ≤ 32) := Lib.hid (fun s hs => by
                  obtain ⟨i, hi, rfl⟩ := List.mem_iff_getElem.1 hs
                  exact hG.out i _ (by have := HN.out; omega) (List.getElem?_eq_getElem hi))
                have HJ1 := Lib.hid (join_any (.slice (some ⟨b1, o1, none⟩) n cap1) L wr (S1.out.below RStr.mono HB.out) hLne (by rw [← HN.out]; omega) (fun s hs => (HG.out s hs).2))
                have hT1 : (joinC (datas L)).length ≤ 2147483654 := by
                  have h1 := joinC_len (datas L) (fun p hp => by
                    unfold datas at hp
                    obtain ⟨s, hs, rfl⟩ := List.mem_map.1 hp
                    rw [str_len]
                    exact (HG.out s hs).2)
                  have h2 : (datas L).length = n := by unfold datas; rw [List.length_map, HN.out]
                  omega
                have hT2 : (joinC (datas O)).length ≤ 2147483654 := by
                  have h1 := joinC_len (datas O) (fun p hp => by
                    unfold datas at hp
                    obtain ⟨s, hs, rfl⟩ := List.mem_map.1 hp
                    rw [str_len]
                    exact (HG.out s ((HO3.out s).1 hs)).2)
                  have h2 : (datas O).length = O.length := by unfold datas; rw [List.length_map]
                  omega
                have hEQ := order_plain k L O (fun s hs => (HG.out s hs).1) hLne HO3.out
                have HI1 : Hid (ImplIs k (joinC (datas L)) (fieldJ k (joinC (datas L)))) := Lib.hid (fun W hE => implField_any k hk _ hT1 W hE)
                have HI2 : Hid (ImplIs k (joinC (datas O)) (fieldJ k (joinC (datas L)))) := Lib.hid (fun W hE => by rw [← hEQ]; exact implField_any k hk _ hT2 W hE)
                have HJ2 : Hid (∀ W : World, Below wr.heap.size wr W → Calls Tryd.prog 13 #[.slice (some ⟨g, 0, none⟩) O.length cap, .string ⟨#[44]⟩] W fun e w' => e = .returned (.string (mkB (joinC (datas O)))) ∧ W = w') := Lib.hid (fun W hW => join_any _ O W ((sl_own HOW.out HOne.out).below RStr.mono hW) HOne.out hOlen (fun s hs => (HG.out s ((HO3.out s).1 hs)).2))
                have HP := Lib.hid (field_plain k (joinC (datas L)))
                have HF : Hid (FieldIs (loK k) (hiK k) k (joinC (datas L)) (fieldT k (joinC (datas L))) (fieldF k (joinC (datas L))) (fieldN k (joinC (datas L)))) := Lib.hid (fun W => cronField_any k hk _ hT1 W)
                have HBO : Hid (∀ W : World, Calls Tryd.prog 8 #[.int .i64 k] W fun e w' => e = .returned (.agg #[.int .i64 (loK k : Nat), .int .i64 (hiK k : Nat), .int .i64 k]) ∧ Below W.heap.size W w') := Lib.hid (boundsOf_any k hk)
                clear hT1 hT2 hEQ hG
                generalize joinC (datas L) = T1 at HJ1 HI1 HI2 HP HF
                generalize joinC (datas O) = T2 at HI2 HJ2
                generalize fieldT k T1 = T9 at HP HF
                generalize fieldF k T1 = F9 at HP HF
                generalize fieldN k T1 = V9 at HP HF
                generalize fieldJ k T1 = J9 at HP HI1 HI2
                generalize loK k = lo at HF HBO
                generalize hiK k = hi9 at HF HBO
                have HC9 : Hid (J9 = none → V9 ≠ 1) := Lib.hid (fun h h1 => by have := HP.out.2.1 h1; rw [h] at this; cases this)
                go_wp2_with fail
                refine (HJ1.out).mono ?_
                rintro e w' ⟨rfl, rfl⟩
                cases J9 with
                | some b9 =>
                  go_wp2_with fail
                  refine (HI1.out _ HEr).mono ?_
                  rintro e w3 ⟨rfl, hb3⟩
                  have HB3 := Lib.hid hb3
                  have HE3 : Hid (Errs w3) := Lib.hid (HEr.out.below hb3)
                  clear hb3
                  go_wp2_with fail
                  refine (HJ2.out _ HB3.out).mono ?_
                  rintro e w' ⟨rfl, rfl⟩
                  go_wp2_with fail
                  refine (HI2.out _ HE3).mono ?_
                  rintro e w4 ⟨rfl, hb4⟩
                  have HB4 := Lib.hid ((HB.out.trans (HB3.out.mono HB.out.size)).trans (hb4.mono (HB.out.trans (HB3.out.mono HB.out.size)).size))
                  clear hb4
                  go_wp2_with fail
                  refine (HBO.out _).mono ?_
                  rintro e w5 ⟨rfl, hb5⟩
                  have HB5 := Lib.hid (HB4.out.trans (hb5.mono HB4.out.size))
                  clear hb5
                  go_wp2_with fail
                  refine (HF.out _).mono ?_
                  rintro e w6 ⟨rfl, hb6⟩
                  have HB6 := Lib.hid (HB5.out.trans (hb6.mono HB5.out.size))
                  clear hb6
                  go_wp2_with (first | (refine store_stop rfl 25 (.tmp 17) (.tmp 124) rfl w6.heap.size 0 (setL T9 F9).toArray rfl rfl (infoCS.trans (by simp [setL_len])) (setL_one T9 F9) (stop_here ?_)))
                  unfold Stop
                  refine ⟨?_, fun hTX => ?_⟩
                  · (try rw [setL_len])
                    exact there_new _ _ _ _ _ rfl rfl
                  generalize hX : World.setCells _ _ _ _ = X
                  have HBX : Hid (Below w.heap.size w X) := Lib.hid (HB6.out.trans ((by rw [← hX]; exact below_setCells (Nat.le_refl _) _ _ _ (Below.alloc (Below.refl _ _) (Nat.le_refl _) _) : Below w6.heap.size w6 X).mono HB6.out.size))
                  clear hX hTX
                  go_wp2_with fail
                  go_ret
                  exact ⟨rfl, HBX.out⟩
                | none =>
                  have qv : ((V9 : Int) != 1) = true := by have := HC9.out rfl; simp only [bne_iff_ne]; omega
                  go_wp2_with fail
                  refine (HI1.out _ HEr).mono ?_
                  rintro e w3 ⟨rfl, hb3⟩
                  have HB3 := Lib.hid hb3
                  have HE3 : Hid (Errs w3) := Lib.hid (HEr.out.below hb3)
                  clear hb3
                  go_wp2_with fail
                  refine (HJ2.out _ HB3.out).mono ?_
                  rintro e w' ⟨rfl, rfl⟩
                  go_wp2_with fail
                  refine (HI2.out _ HE3).mono ?_
                  rintro e w4 ⟨rfl, hb4⟩
                  have HB4 := Lib.hid ((HB.out.trans (HB3.out.mono HB.out.size)).trans (hb4.mono (HB.out.trans (HB3.out.mono HB.out.size)).size))
                  clear hb4
                  go_wp2_with fail
                  refine (HBO.out _).mono ?_
                  rintro e w5 ⟨rfl, hb5⟩
                  have HB5 := Lib.hid (HB4.out.trans (hb5.mono HB4.out.size))
                  clear hb5
                  go_wp2_with fail
                  refine (HF.out _).mono ?_
                  rintro e w6 ⟨rfl, hb6⟩
                  have HB6 := Lib.hid (HB5.out.trans (hb6.mono HB5.out.size))
                  clear hb6
                  go_wp2_with (first | (refine store_stop rfl 25 (.tmp 17) (.tmp 124) rfl w6.heap.size 0 (setL T9 F9).toArray rfl rfl (infoCS.trans (by simp [setL_len])) (setL_one T9 F9) (stop_here ?_)))
                  unfold Stop
                  refine ⟨?_, fun hTX => ?_⟩
                  · (try rw [setL_len])
                    exact there_new _ _ _ _ _ rfl rfl
                  generalize hX : World.setCells _ _ _ _ = X
                  have HBX : Hid (Below w.heap.size w X) := Lib.hid (HB6.out.trans ((by rw [← hX]; exact below_setCells (Nat.le_refl _) _ _ _ (Below.alloc (Below.refl _ _) (Nat.le_refl _) _) : Below w6.heap.size w6 X).mono HB6.out.size))
                  clear hX hTX
                  go_wp2_with fail
                  go_ret
                  exact ⟨rfl, HBX.out⟩
    · have hcase : isKindB kind = false ∨ (isKindB kind = true ∧ (n = 0 ∨ (n ≠ 0 ∧ 64 < n) ∨ (n ≠ 0 ∧ n ≤ 64 ∧ 64 < m))) := by
        cases hkb : isKindB kind with
        | false => exact Or.inl rfl
        | true =>
          refine Or.inr ⟨rfl, ?_⟩
          by_cases c1 : n = 0
          · exact Or.inl c1
          · by_cases c2 : 64 < n
            · exact Or.inr (Or.inl ⟨c1, c2⟩)
            · by_cases c3 : 64 < m
              · exact Or.inr (Or.inr ⟨c1, by omega, c3⟩)
              · exact absurd ⟨hkb, c1, by omega, by omega⟩ hgood
      clear hgood
      go_enter Tryd.func4, Tryd.ntmps4
      go_wp2_with fail
      refine HFit.out.mono ?_
      rintro e w' ⟨⟨bf, rfl⟩, rfl⟩
      cases bf with
      | false =>
        go_wp2_with fail
        go_ret
        exact ⟨rfl, Below.refl _ _⟩
      | true =>
        rcases hcase with hkb | ⟨hkb, hc⟩
        · rw [hkb] at HK
          clear hkb
          go_wp2_with (first | (go_at_call 6; refine (HK.out _).mono ?_; rintro e w' ⟨rfl, rfl⟩))
          go_ret
          exact ⟨rfl, Below.refl _ _⟩
        · rw [hkb] at HK
          clear hkb
          rcases hc with hc | ⟨hc, hc2⟩ | ⟨hc, hc2, hc3⟩
          · have g1 : ((n : Int) == 0) = true := by subst hc; rfl
            clear hc
            go_wp2_with (first | (go_at_call 6; refine (HK.out _).mono ?_; rintro e w' ⟨rfl, rfl⟩))
            go_ret
            exact ⟨rfl, Below.refl _ _⟩
          · have g1 : ((n : Int) == 0) = false := by simp only [beq_eq_false_iff_ne]; omega
            have g2 : decide ((64 : Int) < (n : Int)) = true := decide_eq_true (by omega)
            clear hc hc2
            go_wp2_with (first | (go_at_call 6; refine (HK.out _).mono ?_; rintro e w' ⟨rfl, rfl⟩))
            go_ret
            exact ⟨rfl, Below.refl _ _⟩
          · have g1 : ((n : Int) == 0) = false := by simp only [beq_eq_false_iff_ne]; omega
            have g2 : decide ((64 : Int) < (n : Int)) = false := decide_eq_false (by omega)
            have g3 : decide ((64 : Int) < (m : Int)) = true := decide_eq_true (by omega)
            clear hc hc2 hc3
            go_wp2_with (first | (go_at_call 6; refine (HK.out _).mono ?_; rintro e w' ⟨rfl, rfl⟩))
            go_ret
            exact ⟨rfl, Below.refl _ _⟩
end Go.Proofs.YtkhggefbkhdimaaDoor
