/- cron.normalizeFields where the day of the week may be left away. -/
import Derived.Test.YtkhggefbkhdimaaGreatDoorGFf
namespace Go.Proofs.YtkhggefbkhdimaaGreatDoor
open Go.RowKit Go.Shelf
set_option linter.unusedVariables false
set_option linter.unusedSimpArgs false

theorem strsV_at (l : List ByteArray) (i : Nat) (h : i < l.length) : (strsV l)[i]? = some (.string (l.getD i noStr)) := by
  simp only [strsV, List.getElem?_map, List.getD, List.getElem?_eq_getElem h, Option.map_some, Option.getD_some]

set_option maxRecDepth 100000 in
set_option maxHeartbeats 4000000 in
theorem norm_dowF (o : Int) (tk : Nat → Bool) (q2 : decide (0 < bits .and .i64 o 2) = false) (q7 : decide (0 < bits .and .i64 o 128) = true) (q7b : decide (0 < bits .and .i64 (bits .or .i64 o 64) 128) = true) (HT : Hid (∀ i, i < 6 → decide (0 < bits .and .i64 (bits .or .i64 o 64) (place i)) = tk i))
    (v : Value) (fs : List ByteArray) (w : World) (B : Nat) (hown : w.ownsRow B 9 1 v fs.length (strsV fs)) (hBw : B ≤ w.heap.size) (hl : fs ≠ []) (hn : fs.length = cntT tk 6) :
    Calls Tryz.prog 68 #[v, .int .i64 o] w fun e w' => ∃ G, e = .returned (.tuple #[.slice (some ⟨G, 0, none⟩) 6 6, .nilIface]) ∧ (∀ i, i < 6 → w'.cell? ⟨G, i, none⟩ = some (.string ((expE tk fs 6).getD i noStr))) ∧ w.heap.size ≤ G ∧ w.grownBy w' v.ownBlock := by
  obtain ⟨i0, hi, hz0, hz1, hz2⟩ := info_parts Tryz.infoStr
  have HOW := Lib.hid hown
  obtain ⟨b, cap, rfl, _, _, hc0⟩ := own_open hown (by cases fs with
    | nil => exact absurd rfl hl
    | cons a l => simp)
  have hc : ∀ i x, fs[i]? = some x → w.cell? ⟨b, i, none⟩ = some (.string x) := fun i x hx => by
    have hil := (List.getElem?_eq_some_iff.1 hx).1
    rw [hc0 i hil]
    simp only [strsV, List.getD, List.getElem?_map, hx, Option.map_some, Option.getD_some]
  have HC := Lib.hid hc
  clear hc hc0 hown
  obtain ⟨N, hN⟩ : ∃ N, N = fs.length := ⟨_, rfl⟩
  rw [← hN] at hn ⊢
  have HN := Lib.hid hN
  have HM := Lib.hid hn
  have hN1 : 1 ≤ N := by rw [hN]; cases fs with
    | nil => exact absurd rfl hl
    | cons a l => simp
  have hN6 : N ≤ 6 := by have := cnt_le tk 6; omega
  clear hn hN
  go_enter Tryz.func68, Tryz.ntmps68
  go_wp2_with fail
  refine (places_any _).mono ?_
  rintro e w1 ⟨g1, rfl, hp1, _, hb1⟩
  have HP1 := Lib.hid hp1
  have HB1 := Lib.hid hb1
  clear hp1 hb1
  go_wp2_with fail
  go_loop [7, 35] (fun mx i => ∃ j : Nat, j ≤ 6 ∧ i = .int .i64 j ∧ mx = .int .i64 (cntT tk j : Nat)) (fun _ i => 6 - (intOf i).toNat)
  case atStart => exact ⟨0, by omega, rfl, rfl⟩
  case round =>
    obtain ⟨j, hj, rfl, rfl⟩ := hrel
    by_cases hlt : j < 6
    · have hy := HP1.out j hlt
      have q8 : decide ((j : Int) < 6) = true := decide_eq_true (by omega)
      have ht := HT.out j hlt
      have hcl := cnt_le tk j
      have HCN : Hid (cntT tk (j + 1) = cntT tk j + (if tk j = true then 1 else 0)) := Lib.hid rfl
      generalize place j = p at hy ht
      cases htk : tk j with
      | true =>
        rw [htk] at ht
        have HCN2 : Hid ((((cntT tk j : Nat) : Int) + 1) = ((cntT tk (j + 1) : Nat) : Int)) := Lib.hid (by rw [HCN.out, htk]; simp)
        clear htk
        go_wp2_with fail
        rw [HCN2.out]
        go_round
        case rel => exact ⟨j + 1, by omega, by go_num, rfl⟩
        case measure => simp [intOf]; omega
      | false =>
        rw [htk] at ht
        have HCN2 : Hid (cntT tk (j + 1) = cntT tk j) := Lib.hid (by rw [HCN.out, htk]; simp)
        clear htk
        go_wp2_with fail
        go_round
        case rel => exact ⟨j + 1, by omega, by go_num, by rw [HCN2.out]⟩
        case measure => simp [intOf]; omega
    · have ej : j = 6 := by omega
      subst ej
      rw [← HM.out]
      have s1 : decide (((N : Nat) : Int) < (N : Int) - 1) = false := decide_eq_false (by omega)
      have s2 : decide ((N : Int) - 1 < ((N : Nat) : Int)) = true := decide_eq_true (by omega)
      have s3 : ((N : Int) == (N : Int) - 1) = false := by simp only [beq_eq_false_iff_ne]; omega
      go_wp2_with fail
      refine (places_any _).mono ?_
      rintro e2 w2 ⟨g2, rfl, hp2, _, hb2⟩
      have HB2 := Lib.hid (HB1.out.trans (hb2.mono HB1.out.size))
      clear hp2 hb2
      go_wp2_with (at_make; refine stop_here ?_)
      unfold Stop
      refine wpList_make_full _ rfl _ _ 39 rfl w.heap.size 9 i0 (.string ByteArray.empty) 1 Tryz.underlying39 hi hz0 hz1 .i64 .i64 _ _ 6 rfl rfl rfl rfl (by rw [hz2]; decide) (by unfold maxLen; decide) HB2.out.size ?_
      intro w3 hown3 hg3
      have HB3 : Hid (Below w.heap.size w w3) := Lib.hid (Below.grown HB2.out hg3 HB2.out.size (fun k hk => by cases hk))
      obtain ⟨G, hG⟩ : ∃ G, G = w2.heap.size := ⟨_, rfl⟩
      have hGw : w.heap.size ≤ G := by rw [hG]; exact HB2.out.size
      rw [← hG] at hown3 ⊢
      have hrow : ∃ cur : List Value, cur.length = 6 ∧ w3.heap[G]? = some (.cells cur.toArray 9 (0, 0)) := by
        rcases hown3.2 with ⟨h, _⟩ | ⟨g, cap, cur, h, _, hg, _, _, hcs, _⟩
        · cases h
        · injection h with h1 h2 h3
          injection h1 with h1
          injection h1 with h1
          subst h1
          refine ⟨cur.toList, by rw [Array.length_toList, hcs, ← h3], by simpa using hg⟩
      obtain ⟨cur, hcur, hrow⟩ := hrow
      have HROW := Lib.hid hrow
      clear hown3 hg3 hG hrow
      go_wp2_with fail
      refine (defaults_any _).mono ?_
      rintro e w4 ⟨g4, rfl, hd4, hb4⟩
      have HROW4 : Hid (w4.heap[G]? = some (.cells cur.toArray 9 (0, 0))) := Lib.hid ((hb4.block _ (Array.getElem?_eq_some_iff.1 HROW.out).1).trans HROW.out)
      have HD4 := Lib.hid hd4
      have HB4 := Lib.hid (HB3.out.trans (hb4.mono HB3.out.size))
      clear hd4 hb4
      go_wp2_with (first | (refine wpList_copy_splice rfl (.tmp 97) (.tmp 98) 39 39 rfl 9 Tryz.underlying39 infoS1 (some ⟨G, 0, none⟩) (some ⟨g4, 0, none⟩) 6 6 6 6 rfl rfl G 0 cur 9 HROW4.out ((List.range 6).map (fun i => Value.string (dflt i))) rfl (fun _ => ⟨rfl, _, rfl, fun j v hj => ?cp⟩) (by simp [hcur]) (fun v hv => ?co) w.heap.size w HB4.out hGw (stop_here ?_)))
      case cp =>
        have hj6 : j < 6 := by have := (List.getElem?_eq_some_iff.1 hj).1; simpa using this
        have := HD4.out j hj6
        rw [List.getElem?_map, List.getElem?_range hj6] at hj
        have e := Option.some.inj hj
        rw [← e, add_add0, Nat.zero_add]
        exact this
      case co =>
        obtain ⟨i, _, rfl⟩ := List.mem_map.1 hv
        rfl
      unfold Stop
      intro w5 hr5 hb5
      have hsp : splice cur 0 ((List.range 6).map (fun i => Value.string (dflt i))) = strsV (expE tk fs 0) := by
        rw [expE_zero]
        unfold splice
        simp [hcur]
      have HO5 : Hid (w5.ownsRow w.heap.size 9 1 (.slice (some ⟨G, 0, none⟩) 6 6) 6 (strsV (expE tk fs 0))) := Lib.hid (row_own (by simp [strsV, expE_len]) (by rw [← hsp]; exact hr5.out) hGw)
      have HB5 := Lib.hid hb5
      clear hr5 hb5 hsp
      go_wp2_with fail
      have hG5 : G < w5.heap.size := (HO5.out.lt G rfl).2
      refine (places_any _).mono ?_
      rintro e w6 ⟨g6, rfl, hp6, hg6, hb6⟩
      have HP6 := Lib.hid hp6
      have HO6 : Hid (w6.ownsRow w.heap.size 9 1 (.slice (some ⟨G, 0, none⟩) 6 6) 6 (strsV (expE tk fs 0))) := Lib.hid (own_below HO5.out hb6)
      have HB6 := Lib.hid (HB5.out.trans (hb6.mono HB5.out.size))
      have hGg : G < g6 := by omega
      clear hp6 hb6
      go_wp2_with fail
      go_loopw [12, 102] (fun nv i wr => ∃ j : Nat, j ≤ 6 ∧ i = .int .i64 j ∧ nv = .int .i64 (cntT tk j : Nat) ∧ Hid (wr.ownsRow w.heap.size 9 1 (.slice (some ⟨G, 0, none⟩) 6 6) 6 (strsV (expE tk fs j))) ∧ Hid (w6.grownBy wr (some G))) (fun _ i _ => 6 - (intOf i).toNat)
      case atStart => exact ⟨0, by omega, rfl, rfl, HO6, Lib.hid (World.grownBy.refl _ _)⟩
      case round =>
        obtain ⟨j, hj, rfl, rfl, hO, hGr⟩ := hrel
        by_cases hlt : j < 6
        · have hy : wr.cell? ⟨g6, j, none⟩ = some (.int .i64 (place j)) := hGr.out.cell (HP6.out j hlt) (by intro h; injection h with h; have h : g6 = G := h; omega)
          have q8 : decide ((j : Int) < 6) = true := decide_eq_true (by omega)
          have ht := HT.out j hlt
          have hcl := cnt_le tk j
          have HCN : Hid (cntT tk (j + 1) = cntT tk j + (if tk j = true then 1 else 0)) := Lib.hid rfl
          generalize place j = p at hy ht
          cases htk : tk j with
          | true =>
            rw [htk] at ht
            have hlen : cntT tk j < fs.length := by
              have h1 := HCN.out
              rw [htk, if_pos rfl] at h1
              have h2 := cnt_mono tk (j + 1) 6 (by omega)
              have h3 := HN.out
              have h4 := HM.out
              omega
            have hlN : cntT tk j < N := by rw [HN.out]; exact hlen
            have hcw := HC.out (cntT tk j) fs[cntT tk j] (List.getElem?_eq_getElem hlen)
            have hcf : wr.cell? ⟨b, cntT tk j, none⟩ = some (.string fs[cntT tk j]) := hGr.out.cell (cellB HB6.out hcw) (by intro h; injection h with h; have h : b = G := h; have := cellLt hcw; simp at this; omega)
            have HXV : Hid (strsV (expE tk fs (j + 1)) = (strsV (expE tk fs j)).set j (.string fs[cntT tk j])) := Lib.hid (by
              rw [expE_yes tk fs j hlt htk, strsV_put]
              congr 2
              simp [List.getD, hlen])
            have HCN2 : Hid ((((cntT tk j : Nat) : Int) + 1) = ((cntT tk (j + 1) : Nat) : Int)) := Lib.hid (by rw [HCN.out, htk]; simp)
            have HST := Lib.hid (hO.out.stored j (.string fs[cntT tk j]))
            have hcj : ∃ V, wr.cell? ⟨G, j, none⟩ = some V := by
              rw [hO.out.cellAt j (by omega)]
              exact ⟨_, List.getElem?_eq_getElem (by simp [strsV, expE_len]; omega)⟩
            obtain ⟨V, hV⟩ := hcj
            have hVf := hO.out.frozenAt j
            have HO2 : Hid ((wr.setCell ⟨G, j, none⟩ (.string fs[cntT tk j])).ownsRow w.heap.size 9 1 (.slice (some ⟨G, 0, none⟩) 6 6) 6 (strsV (expE tk fs (j + 1)))) := Lib.hid (by rw [HXV.out]; exact HST.out.1)
            have HG2 : Hid (w6.grownBy (wr.setCell ⟨G, j, none⟩ (.string fs[cntT tk j])) (some G)) := Lib.hid (hGr.out.trans HST.out.2)
            generalize fs[cntT tk j] = x at hcf HO2 HG2
            clear hcw hlen htk HXV HST
            generalize cntT tk j = c at hcf HCN2 hlN hcl
            go_wp2_with fail
            rw [HCN2.out]
            go_roundw
            case rel => exact ⟨j + 1, by omega, by go_num, rfl, HO2, HG2⟩
            case measure => simp [intOf]; omega
          | false =>
            rw [htk] at ht
            have HCN2 : Hid (cntT tk (j + 1) = cntT tk j) := Lib.hid (by rw [HCN.out, htk]; simp)
            have HEN := Lib.hid (expE_no tk fs j htk)
            clear htk
            go_wp2_with fail
            go_roundw
            case rel => exact ⟨j + 1, by omega, by go_num, by rw [HCN2.out], by rw [HEN.out]; exact hO, hGr⟩
            case measure => simp [intOf]; omega
        · have ej : j = 6 := by omega
          subst ej
          have HBr : Hid (Below w.heap.size w wr) := Lib.hid (Below.grown HB6.out hGr.out HB6.out.size (fun k hk => by cases hk; exact hGw))
          go_wp2_with fail
          go_ret2
          exact ⟨G, rfl, fun i hi => by rw [hO.out.cellAt i (by omega)]; exact strsV_at _ i (by rw [expE_len]; exact hi), hGw, grown_of_below (B := 0) HBr.out⟩

set_option maxRecDepth 100000 in
set_option maxHeartbeats 4000000 in
theorem norm_dowM (o : Int) (tk : Nat → Bool) (q2 : decide (0 < bits .and .i64 o 2) = false) (q7 : decide (0 < bits .and .i64 o 128) = true) (q7b : decide (0 < bits .and .i64 (bits .or .i64 o 64) 128) = true) (HT : Hid (∀ i, i < 6 → decide (0 < bits .and .i64 (bits .or .i64 o 64) (place i)) = tk i))
    (v : Value) (fs : List ByteArray) (w : World) (B : Nat) (hown : w.ownsRow B 9 1 v fs.length (strsV fs)) (hBw : B ≤ w.heap.size) (hl : fs ≠ []) (hn : fs.length + 1 = cntT tk 6) :
    Calls Tryz.prog 68 #[v, .int .i64 o] w fun e w' => ∃ G, e = .returned (.tuple #[.slice (some ⟨G, 0, none⟩) 6 6, .nilIface]) ∧ (∀ i, i < 6 → w'.cell? ⟨G, i, none⟩ = some (.string ((expE tk (fs ++ [starT]) 6).getD i noStr))) ∧ w.heap.size ≤ G ∧ w.grownBy w' v.ownBlock := by
  obtain ⟨i0, hi, hz0, hz1, hz2⟩ := info_parts Tryz.infoStr
  have HOW := Lib.hid hown
  obtain ⟨b, cap, rfl, _, _, hc0⟩ := own_open hown (by cases fs with
    | nil => exact absurd rfl hl
    | cons a l => simp)
  have hc : ∀ i x, fs[i]? = some x → w.cell? ⟨b, i, none⟩ = some (.string x) := fun i x hx => by
    have hil := (List.getElem?_eq_some_iff.1 hx).1
    rw [hc0 i hil]
    simp only [strsV, List.getD, List.getElem?_map, hx, Option.map_some, Option.getD_some]
  have HC := Lib.hid hc
  clear hc hc0 hown
  obtain ⟨N, hN⟩ : ∃ N, N = fs.length := ⟨_, rfl⟩
  rw [← hN] at hn ⊢
  have HN := Lib.hid hN
  have HM := Lib.hid hn
  have hN1 : 1 ≤ N := by rw [hN]; cases fs with
    | nil => exact absurd rfl hl
    | cons a l => simp
  have hN6 : N ≤ 5 := by have := cnt_le tk 6; omega
  clear hn hN
  go_enter Tryz.func68, Tryz.ntmps68
  go_wp2_with fail
  refine (places_any _).mono ?_
  rintro e w1 ⟨g1, rfl, hp1, _, hb1⟩
  have HP1 := Lib.hid hp1
  have HB1 := Lib.hid hb1
  clear hp1 hb1
  go_wp2_with fail
  go_loop [7, 35] (fun mx i => ∃ j : Nat, j ≤ 6 ∧ i = .int .i64 j ∧ mx = .int .i64 (cntT tk j : Nat)) (fun _ i => 6 - (intOf i).toNat)
  case atStart => exact ⟨0, by omega, rfl, rfl⟩
  case round =>
    obtain ⟨j, hj, rfl, rfl⟩ := hrel
    by_cases hlt : j < 6
    · have hy := HP1.out j hlt
      have q8 : decide ((j : Int) < 6) = true := decide_eq_true (by omega)
      have ht := HT.out j hlt
      have hcl := cnt_le tk j
      have HCN : Hid (cntT tk (j + 1) = cntT tk j + (if tk j = true then 1 else 0)) := Lib.hid rfl
      generalize place j = p at hy ht
      cases htk : tk j with
      | true =>
        rw [htk] at ht
        have HCN2 : Hid ((((cntT tk j : Nat) : Int) + 1) = ((cntT tk (j + 1) : Nat) : Int)) := Lib.hid (by rw [HCN.out, htk]; simp)
        clear htk
        go_wp2_with fail
        rw [HCN2.out]
        go_round
        case rel => exact ⟨j + 1, by omega, by go_num, rfl⟩
        case measure => simp [intOf]; omega
      | false =>
        rw [htk] at ht
        have HCN2 : Hid (cntT tk (j + 1) = cntT tk j) := Lib.hid (by rw [HCN.out, htk]; simp)
        clear htk
        go_wp2_with fail
        go_round
        case rel => exact ⟨j + 1, by omega, by go_num, by rw [HCN2.out]⟩
        case measure => simp [intOf]; omega
    · have ej : j = 6 := by omega
      subst ej
      obtain ⟨M, hM⟩ : ∃ M, M = cntT tk 6 := ⟨_, rfl⟩
      rw [← hM]
      have hMN : M = N + 1 := by rw [hM]; exact HM.out.symm
      have HM2 := Lib.hid hM
      clear hM
      have s1 : decide (((N : Nat) : Int) < (M : Int) - 1) = false := decide_eq_false (by omega)
      have s2 : decide ((M : Int) - 1 < ((M : Nat) : Int)) = true := decide_eq_true (by omega)
      have s3 : ((N : Int) == (M : Int) - 1) = true := by simp only [beq_iff_eq]; omega
      have s4 : decide (((M : Nat) : Int) < (N : Int)) = false := decide_eq_false (by omega)
      go_wp2_with fail
      refine (defaults_any _).mono ?_
      rintro e3 w3 ⟨g3, rfl, hd3, hb3⟩
      have hs5 := hd3 5 (by omega)
      have hbw3 := HB1.out.trans (hb3.mono HB1.out.size)
      have HOW3 : Hid (w3.ownsRow B 9 1 (.slice (some ⟨b, 0, none⟩) N cap) N (strsV fs)) := Lib.hid (by have h9 := own_below HOW.out hbw3; rw [← HN.out] at h9; exact h9)
      have HB3 := Lib.hid hbw3
      clear hd3 hb3 hbw3
      go_wp2_with (first | (at_builtin; refine stop_here ?_))
      unfold Stop
      refine wpList_append_own _ rfl _ _ 39 rfl B 9 i0 (.string ByteArray.empty) 1 16 Tryz.underlying39 hi hz0 hz1 hz2 rfl (by decide) _ _ _ rfl (HOW3.out.alloc _) ⟨w3.heap.size, 0, none⟩ 1 1 [_] rfl rfl (cell_one_new _ _ _) ?_ ?_ ?_ ?_ ?_
      · intro u hu; rw [List.mem_singleton] at hu; subst hu; rfl
      · unfold maxLen; have := HN.out; omega
      · have := HN.out; omega
      · simp; have := HB3.out.size; omega
      intro v4 wk hown4 hgrow4 _
      have HG4 : Hid (w.grownBy wk (some b)) := Lib.hid (((grown_of_below (B := 0) HB3.out).trans (World.grownBy_alloc w3 _ _)).trans hgrow4)
      obtain ⟨fs2, hfs2⟩ : ∃ fs2, fs2 = fs ++ [starT] := ⟨_, rfl⟩
      obtain ⟨N2, hN2⟩ : ∃ N2, N2 = fs2.length := ⟨_, rfl⟩
      have hNN : N + 1 = N2 := by rw [hN2, hfs2, HN.out]; simp
      rw [hNN, show strsV fs ++ [Value.string (dflt 5)] = strsV fs2 from by rw [hfs2]; simp [strsV, dflt]] at hown4
      rw [hN2] at hown4
      obtain ⟨b2, cap2, hv4, _, _, hc0⟩ := own_open hown4 (by rw [hfs2]; simp)
      rw [← hN2] at hv4
      subst hv4
      have hc : ∀ i x, fs2[i]? = some x → wk.cell? ⟨b2, i, none⟩ = some (.string x) := fun i x hx => by
        have hil := (List.getElem?_eq_some_iff.1 hx).1
        rw [hc0 i (by omega)]
        simp only [strsV, List.getD, List.getElem?_map, hx, Option.map_some, Option.getD_some]
      have HC2 := Lib.hid hc
      have HN2 := Lib.hid hN2
      have HM3 : Hid (N2 = cntT tk 6) := Lib.hid (by rw [← hNN]; exact HM.out)
      have HBk : Hid (Below wk.heap.size wk wk) := Lib.hid (Below.refl _ _)
      have hN26 : N2 ≤ 6 := by rw [HM3.out]; exact cnt_le tk 6
      have HFS := Lib.hid hfs2
      clear hc hc0 hown4 hgrow4 hfs2 hN2 hNN s1 s2 s3 s4 hs5
      go_wp2_with fail
      refine (places_any _).mono ?_
      rintro e8 w8 ⟨g2, rfl, hp2, _, hb2⟩
      have HB2 := Lib.hid (HBk.out.trans (hb2.mono HBk.out.size))
      clear hp2 hb2
      go_wp2_with (at_make; refine stop_here ?_)
      unfold Stop
      refine wpList_make_full _ rfl _ _ 39 rfl wk.heap.size 9 i0 (.string ByteArray.empty) 1 Tryz.underlying39 hi hz0 hz1 .i64 .i64 _ _ 6 rfl rfl rfl rfl (by rw [hz2]; decide) (by unfold maxLen; decide) HB2.out.size ?_
      intro w7 hown3 hg3
      have HB3 : Hid (Below wk.heap.size wk w7) := Lib.hid (Below.grown HB2.out hg3 HB2.out.size (fun k hk => by cases hk))
      obtain ⟨G, hG⟩ : ∃ G, G = w8.heap.size := ⟨_, rfl⟩
      have hGw : wk.heap.size ≤ G := by rw [hG]; exact HB2.out.size
      rw [← hG] at hown3 ⊢
      have hrow : ∃ cur : List Value, cur.length = 6 ∧ w7.heap[G]? = some (.cells cur.toArray 9 (0, 0)) := by
        rcases hown3.2 with ⟨h, _⟩ | ⟨g, cap, cur, h, _, hg, _, _, hcs, _⟩
        · cases h
        · injection h with h1 h2 h3
          injection h1 with h1
          injection h1 with h1
          subst h1
          refine ⟨cur.toList, by rw [Array.length_toList, hcs, ← h3], by simpa using hg⟩
      obtain ⟨cur, hcur, hrow⟩ := hrow
      have HROW := Lib.hid hrow
      clear hown3 hg3 hG hrow
      go_wp2_with fail
      refine (defaults_any _).mono ?_
      rintro e w4 ⟨g4, rfl, hd4, hb4⟩
      have HROW4 : Hid (w4.heap[G]? = some (.cells cur.toArray 9 (0, 0))) := Lib.hid ((hb4.block _ (Array.getElem?_eq_some_iff.1 HROW.out).1).trans HROW.out)
      have HD4 := Lib.hid hd4
      have HB4 := Lib.hid (HB3.out.trans (hb4.mono HB3.out.size))
      clear hd4 hb4
      go_wp2_with (first | (refine wpList_copy_splice rfl (.tmp 97) (.tmp 98) 39 39 rfl 9 Tryz.underlying39 infoS1 (some ⟨G, 0, none⟩) (some ⟨g4, 0, none⟩) 6 6 6 6 rfl rfl G 0 cur 9 HROW4.out ((List.range 6).map (fun i => Value.string (dflt i))) rfl (fun _ => ⟨rfl, _, rfl, fun j v hj => ?cp⟩) (by simp [hcur]) (fun v hv => ?co) wk.heap.size wk HB4.out hGw (stop_here ?_)))
      case cp =>
        have hj6 : j < 6 := by have := (List.getElem?_eq_some_iff.1 hj).1; simpa using this
        have := HD4.out j hj6
        rw [List.getElem?_map, List.getElem?_range hj6] at hj
        have e := Option.some.inj hj
        rw [← e, add_add0, Nat.zero_add]
        exact this
      case co =>
        obtain ⟨i, _, rfl⟩ := List.mem_map.1 hv
        rfl
      unfold Stop
      intro w5 hr5 hb5
      have hsp : splice cur 0 ((List.range 6).map (fun i => Value.string (dflt i))) = strsV (expE tk fs2 0) := by
        rw [expE_zero]
        unfold splice
        simp [hcur]
      have HO5 : Hid (w5.ownsRow wk.heap.size 9 1 (.slice (some ⟨G, 0, none⟩) 6 6) 6 (strsV (expE tk fs2 0))) := Lib.hid (row_own (by simp [strsV, expE_len]) (by rw [← hsp]; exact hr5.out) hGw)
      have HB5 := Lib.hid hb5
      clear hr5 hb5 hsp
      go_wp2_with fail
      have hG5 : G < w5.heap.size := (HO5.out.lt G rfl).2
      refine (places_any _).mono ?_
      rintro e w6 ⟨g6, rfl, hp6, hg6, hb6⟩
      have HP6 := Lib.hid hp6
      have HO6 : Hid (w6.ownsRow wk.heap.size 9 1 (.slice (some ⟨G, 0, none⟩) 6 6) 6 (strsV (expE tk fs2 0))) := Lib.hid (own_below HO5.out hb6)
      have HB6 := Lib.hid (HB5.out.trans (hb6.mono HB5.out.size))
      have hGg : G < g6 := by omega
      clear hp6 hb6
      go_wp2_with fail
      go_loopw [12, 102] (fun nv i wr => ∃ j : Nat, j ≤ 6 ∧ i = .int .i64 j ∧ nv = .int .i64 (cntT tk j : Nat) ∧ Hid (wr.ownsRow wk.heap.size 9 1 (.slice (some ⟨G, 0, none⟩) 6 6) 6 (strsV (expE tk fs2 j))) ∧ Hid (w6.grownBy wr (some G))) (fun _ i _ => 6 - (intOf i).toNat)
      case atStart => exact ⟨0, by omega, rfl, rfl, HO6, Lib.hid (World.grownBy.refl _ _)⟩
      case round =>
        obtain ⟨j, hj, rfl, rfl, hO, hGr⟩ := hrel
        by_cases hlt : j < 6
        · have hy : wr.cell? ⟨g6, j, none⟩ = some (.int .i64 (place j)) := hGr.out.cell (HP6.out j hlt) (by intro h; injection h with h; have h : g6 = G := h; omega)
          have q8 : decide ((j : Int) < 6) = true := decide_eq_true (by omega)
          have ht := HT.out j hlt
          have hcl := cnt_le tk j
          have HCN : Hid (cntT tk (j + 1) = cntT tk j + (if tk j = true then 1 else 0)) := Lib.hid rfl
          generalize place j = p at hy ht
          cases htk : tk j with
          | true =>
            rw [htk] at ht
            have hlen : cntT tk j < fs2.length := by
              have h1 := HCN.out
              rw [htk, if_pos rfl] at h1
              have h2 := cnt_mono tk (j + 1) 6 (by omega)
              have h3 := HN2.out
              have h4 := HM3.out
              omega
            have hlN : cntT tk j < N2 := by rw [HN2.out]; exact hlen
            have hcw := HC2.out (cntT tk j) fs2[cntT tk j] (List.getElem?_eq_getElem hlen)
            have hcf : wr.cell? ⟨b2, cntT tk j, none⟩ = some (.string fs2[cntT tk j]) := hGr.out.cell (cellB HB6.out hcw) (by intro h; injection h with h; have h : b2 = G := h; have := cellLt hcw; simp at this; omega)
            have HXV : Hid (strsV (expE tk fs2 (j + 1)) = (strsV (expE tk fs2 j)).set j (.string fs2[cntT tk j])) := Lib.hid (by
              rw [expE_yes tk fs2 j hlt htk, strsV_put]
              congr 2
              simp [List.getD, hlen])
            have HCN2 : Hid ((((cntT tk j : Nat) : Int) + 1) = ((cntT tk (j + 1) : Nat) : Int)) := Lib.hid (by rw [HCN.out, htk]; simp)
            have HST := Lib.hid (hO.out.stored j (.string fs2[cntT tk j]))
            have hcj : ∃ V, wr.cell? ⟨G, j, none⟩ = some V := by
              rw [hO.out.cellAt j (by omega)]
              exact ⟨_, List.getElem?_eq_getElem (by simp [strsV, expE_len]; omega)⟩
            obtain ⟨V, hV⟩ := hcj
            have hVf := hO.out.frozenAt j
            have HO2 : Hid ((wr.setCell ⟨G, j, none⟩ (.string fs2[cntT tk j])).ownsRow wk.heap.size 9 1 (.slice (some ⟨G, 0, none⟩) 6 6) 6 (strsV (expE tk fs2 (j + 1)))) := Lib.hid (by rw [HXV.out]; exact HST.out.1)
            have HG2 : Hid (w6.grownBy (wr.setCell ⟨G, j, none⟩ (.string fs2[cntT tk j])) (some G)) := Lib.hid (hGr.out.trans HST.out.2)
            generalize fs2[cntT tk j] = x at hcf HO2 HG2
            clear hcw hlen htk HXV HST
            generalize cntT tk j = c at hcf HCN2 hlN hcl
            go_wp2_with fail
            rw [HCN2.out]
            go_roundw
            case rel => exact ⟨j + 1, by omega, by go_num, rfl, HO2, HG2⟩
            case measure => simp [intOf]; omega
          | false =>
            rw [htk] at ht
            have HCN2 : Hid (cntT tk (j + 1) = cntT tk j) := Lib.hid (by rw [HCN.out, htk]; simp)
            have HEN := Lib.hid (expE_no tk fs2 j htk)
            clear htk
            go_wp2_with fail
            go_roundw
            case rel => exact ⟨j + 1, by omega, by go_num, by rw [HCN2.out], by rw [HEN.out]; exact hO, hGr⟩
            case measure => simp [intOf]; omega
        · have ej : j = 6 := by omega
          subst ej
          have HBr : Hid (Below wk.heap.size wk wr) := Lib.hid (Below.grown HB6.out hGr.out HB6.out.size (fun k hk => by cases hk; exact hGw))
          go_wp2_with fail
          go_ret2
          exact ⟨G, rfl, fun i hi => by rw [hO.out.cellAt i (by omega), ← HFS.out]; exact strsV_at _ i (by rw [expE_len]; exact hi), Nat.le_trans HG4.out.size hGw, HG4.out.trans (grown_of_below (B := 0) HBr.out)⟩
end Go.Proofs.YtkhggefbkhdimaaGreatDoor
