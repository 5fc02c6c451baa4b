/- spec.CronMayMiss, CronDefault, CronFill of a text without the optional day of the week. spec.worse, cronForeign, CronBoundsOf; the filled texts of a text without the optional day of the week. -/
import Derived.Test.YtkhggefbkhdimaaGreatDoorGFm
import Derived.Test.YtkhggefbkhdimaaGreatDoorFdT
namespace Go.Proofs.YtkhggefbkhdimaaGreatDoor
open Go.RowKit
set_option linter.unusedVariables false
set_option linter.unusedSimpArgs false

theorem miss_dow (o : Int) (h2 : (bits .and .i64 o 2 != 0) = false) (h7 : (bits .and .i64 o 128 != 0) = true) (w : World) : Calls Tryz.prog 32 #[.int .i64 o] w fun e w' => e = .returned (.int .i64 5) ∧ w = w' := by
  go_enter Tryz.func32, Tryz.ntmps32
  go_wp2_with fail
  go_ret
  exact ⟨rfl, rfl⟩
theorem default_any (k : Nat) (hk : k < 6) (w : World) : Calls Tryz.prog 132 #[.int .i64 k] w fun e w' => e = .returned (.string (dflt k)) ∧ w = w' := by
  have h2 : k = 0 ∨ k = 1 ∨ k = 2 ∨ k = 3 ∨ k = 4 ∨ k = 5 := by omega
  rcases h2 with rfl | rfl | rfl | rfl | rfl | rfl
  all_goals
    go_enter Tryz.func132, Tryz.ntmps132
    go_wp2_with fail
    go_ret
    exact ⟨rfl, rfl⟩
/-- The first n texts filled in. -/
def fillE (tk : Nat → Bool) (fs : List ByteArray) (n : Nat) : List ByteArray := (List.range 6).map (fun i => if i < n then (if tk i && decide (i ≠ 5) then fs.getD (cntT tk i) noStr else dflt i) else noStr)
theorem fillE_len (tk : Nat → Bool) (fs : List ByteArray) (n : Nat) : (fillE tk fs n).length = 6 := by simp [fillE]
theorem fillE_step (tk : Nat → Bool) (fs : List ByteArray) (n : Nat) (hn : n < 6) : fillE tk fs (n + 1) = (fillE tk fs n).set n (if tk n && decide (n ≠ 5) then fs.getD (cntT tk n) noStr else dflt n) := by
  refine List.ext_getElem (by simp [fillE]) (fun i h1 h2 => ?_)
  simp only [fillE, List.getElem_map, List.getElem_range]
  rw [List.getElem_set]
  by_cases e : n = i
  · subst e
    rw [if_pos rfl, if_pos (by omega)]
  · rw [if_neg e]
    simp only [List.getElem_map, List.getElem_range]
    by_cases l : i < n
    · rw [if_pos l, if_pos (by omega)]
    · rw [if_neg l, if_neg (by omega)]

theorem made6 (tk : Nat → Bool) (fs : List ByteArray) : (madeCells (Value.string ByteArray.empty).cells (6 * 1)).toList = strsV (fillE tk fs 0) := by
  unfold madeCells strsV fillE
  rw [Array.toList_map, Array.toList_range, List.map_map]
  refine List.map_congr_left (fun i hi => ?_)
  simp only [Function.comp, Nat.not_lt_zero, if_false]
  have hi6 := List.mem_range.1 hi
  have h2 : i = 0 ∨ i = 1 ∨ i = 2 ∨ i = 3 ∨ i = 4 ∨ i = 5 := by omega
  rcases h2 with rfl | rfl | rfl | rfl | rfl | rfl <;> rfl
def nxO (tk : Nat → Bool) (j : Nat) : Nat := cntT tk (min j 5)
theorem nxO_lt (tk : Nat → Bool) {j : Nat} (h : j ≤ 5) : nxO tk j = cntT tk j := by unfold nxO; rw [Nat.min_eq_left h]
set_option maxRecDepth 100000 in
set_option maxHeartbeats 4000000 in
theorem fill_dow (o : Int) (h2 : (bits .and .i64 o 2 != 0) = false) (h7 : (bits .and .i64 o 128 != 0) = true) (v : Value) (fs : List ByteArray) (w : World) (hs : SlOf RStr 1 w v fs) (hl : fs ≠ []) (hn : fs.length + 1 = cntT (tkO o) 6) (t5 : tkO o 5 = true) :
    Calls Tryz.prog 108 #[v, .int .i64 o] w fun e w' => ∃ G, e = .returned (.tuple #[.slice (some ⟨G, 0, none⟩) 6 6, .bool true]) ∧ w.heap.size ≤ G ∧ w'.ownsRow w.heap.size 9 1 (.slice (some ⟨G, 0, none⟩) 6 6) 6 (strsV (fillE (tkO o) fs 6)) ∧ Below w.heap.size w w' := by
  obtain ⟨i0, hi, hz0, hz1, hz2⟩ := info_parts Tryz.infoStr
  obtain ⟨b, off, cap, rfl, hc⟩ := strs_open hs hl
  have HC := Lib.hid hc
  clear hc hs
  have H2O : Hid (∀ W : World, Calls Tryz.prog 39 #[.int .i64 o] W fun e w' => e = .returned (.bool false) ∧ W = w') := Lib.hid (fun W => by have := two_any o W; unfold twoO at this; rw [h2, Bool.false_and] at this; exact this)
  have HMI := Lib.hid (fun W => miss_dow o h2 h7 W)
  have HTK := Lib.hid (fun k hk W => takes_any o k hk W)
  clear h2 h7
  generalize tkO o = tk at *
  have HT5 := Lib.hid t5
  clear t5
  obtain ⟨N, hN⟩ : ∃ N, N = fs.length := ⟨_, rfl⟩
  rw [← hN] at hn ⊢
  have HN := Lib.hid hN
  have HM := Lib.hid hn
  have hN6 : N ≤ 5 := by have := cnt_le tk 6; omega
  clear hn hN
  go_enter Tryz.func108, Tryz.ntmps108
  go_wp2_with (first | (go_at_call 39; refine (H2O.out _).mono ?_; rintro e w' ⟨rfl, rfl⟩))
  go_loopw [6, 14] (fun n i wr => ∃ j : Nat, j ≤ 6 ∧ i = .int .i64 j ∧ n = .int .i64 (cntT tk j : Nat) ∧ Hid (Below w.heap.size w wr)) (fun _ i _ => 6 - (intOf i).toNat)
  case atStart => exact ⟨0, by omega, rfl, rfl, Lib.hid (Below.refl _ _)⟩
  case round =>
    obtain ⟨j, hj, rfl, rfl, hb⟩ := hrel
    by_cases hlt : j < 6
    · have q8 : decide ((j : Int) < 6) = true := decide_eq_true (by omega)
      have hcl := cnt_le tk j
      have HCN : Hid (cntT tk (j + 1) = cntT tk j + (if tk j = true then 1 else 0)) := Lib.hid rfl
      have HTj := Lib.hid (fun w => HTK.out j hlt w)
      cases htk : tk j with
      | true =>
        have HCN2 : Hid ((((cntT tk j : Nat) : Int) + 1) = ((cntT tk (j + 1) : Nat) : Int)) := Lib.hid (by rw [HCN.out, htk]; simp)
        rw [htk] at HTj
        clear htk
        go_wp2_with fail
        refine (HTj.out _).mono ?_
        rintro e w2 ⟨rfl, hb2⟩
        have hb3 := Lib.hid (hb.out.trans (hb2.mono hb.out.size))
        clear hb2
        go_wp2_with fail
        rw [HCN2.out]
        go_roundw
        case rel => exact ⟨j + 1, by omega, by go_num, rfl, hb3⟩
        case measure => simp [intOf]; omega
      | false =>
        have HCN2 : Hid (cntT tk (j + 1) = cntT tk j) := Lib.hid (by rw [HCN.out, htk]; simp)
        rw [htk] at HTj
        clear htk
        go_wp2_with fail
        refine (HTj.out _).mono ?_
        rintro e w2 ⟨rfl, hb2⟩
        have hb3 := Lib.hid (hb.out.trans (hb2.mono hb.out.size))
        clear hb2
        go_wp2_with fail
        go_roundw
        case rel => exact ⟨j + 1, by omega, by go_num, by rw [HCN2.out], hb3⟩
        case measure => simp [intOf]; omega
    · have ej : j = 6 := by omega
      subst ej
      obtain ⟨M, hM⟩ : ∃ M, M = cntT tk 6 := ⟨_, rfl⟩
      rw [← hM]
      have hMN : M = N + 1 := by rw [hM]; exact HM.out.symm
      have HM2 := Lib.hid hM
      clear hM
      have s1 : ((N : Int) == (M : Int)) = false := by simp only [beq_eq_false_iff_ne]; omega
      have s2 : ((N : Int) != (M : Int) - 1) = false := by simp only [bne_eq_false_iff_eq]; omega
      go_wp2_with (first | (go_at_call 32; refine (HMI.out _).mono ?_; rintro e w' ⟨rfl, rfl⟩) | (at_make; refine stop_here ?_))
      unfold Stop
      refine wpList_make_full _ rfl _ _ 39 rfl w.heap.size 9 i0 (.string ByteArray.empty) 1 Tryz.underlying39 hi hz0 hz1 .i64 .i64 _ _ 6 rfl rfl rfl rfl (by rw [hz2]; decide) (by unfold maxLen; decide) hb.out.size ?_
      intro w3 hown3 hg3
      have HB3 : Hid (Below w.heap.size w w3) := Lib.hid (Below.grown hb.out hg3 hb.out.size (fun k hk => by cases hk))
      obtain ⟨G, hG⟩ : ∃ G, G = wr.heap.size := ⟨_, rfl⟩
      have hGw : w.heap.size ≤ G := by rw [hG]; exact hb.out.size
      rw [← hG] at hown3 ⊢
      have HO0 : Hid (w3.ownsRow w.heap.size 9 1 (.slice (some ⟨G, 0, none⟩) 6 6) 6 (strsV (fillE tk fs 0))) := Lib.hid (by rw [← made6 tk fs]; exact hown3)
      clear hown3 hg3 hG hb
      go_wp2_with fail
      go_loopw [10, 41] (fun nv i wr => ∃ j : Nat, j ≤ 6 ∧ i = .int .i64 j ∧ nv = .int .i64 (nxO tk j : Nat) ∧ Hid (wr.ownsRow w.heap.size 9 1 (.slice (some ⟨G, 0, none⟩) 6 6) 6 (strsV (fillE tk fs j))) ∧ Hid (Below w.heap.size w wr)) (fun _ i _ => 6 - (intOf i).toNat)
      case atStart => exact ⟨0, by omega, rfl, rfl, HO0, HB3⟩
      case round =>
        obtain ⟨j, hj, rfl, rfl, hO, hb⟩ := hrel
        by_cases hlt : j < 6
        · have q8 : decide ((j : Int) < 6) = true := decide_eq_true (by omega)
          have HTj := Lib.hid (fun w => HTK.out j hlt w)
          have hcl : nxO tk j ≤ 6 := by unfold nxO; have := cnt_le tk (min j 5); omega
          by_cases j5 : j = 5
          · cases htk : tk j
            · have HIF : Hid ((tk j && decide (j ≠ 5)) = false) := Lib.hid (by rw [htk]; rfl)
              have HST := fillE_step tk fs j hlt
              rw [HIF.out] at HST
              simp only [if_true, Bool.false_eq_true, if_false] at HST
              have q5 : ((j : Int) != 5) = false := by simp only [bne_eq_false_iff_eq]; omega
              rw [htk] at HTj
              have HNX : Hid ((nxO tk j) = nxO tk (j + 1)) := Lib.hid (by subst j5; rfl)
              have hdf := Lib.hid (fun W => default_any j hlt W)
              have ST1 := hO.out.stored j (.string (dflt j))
              have hcj : ∃ V, wr.cell? ⟨G, j, none⟩ = some V := by
                rw [hO.out.cellAt j (by omega)]
                exact ⟨_, List.getElem?_eq_getElem (by simp [strsV, fillE_len]; omega)⟩
              obtain ⟨V, hV⟩ := hcj
              have hVf := hO.out.frozenAt j
              have HO1 : Hid ((wr.setCell ⟨G, j, none⟩ (.string (dflt j))).ownsRow w.heap.size 9 1 (.slice (some ⟨G, 0, none⟩) 6 6) 6 ((strsV (fillE tk fs j)).set j (.string (dflt j)))) := Lib.hid ST1.1
              have HB1 : Hid (Below w.heap.size w (wr.setCell ⟨G, j, none⟩ (.string (dflt j)))) := Lib.hid (Below.setCell hb.out hGw _)
              clear ST1 htk j5
              go_wp2_with fail
              refine (hdf.out _).mono ?_
              rintro e wd ⟨rfl, rfl⟩
              go_wp2_with fail
              refine (HTj.out _).mono ?_
              rintro e w2 ⟨rfl, hb2⟩
              have HO2 := Lib.hid (own_below HO1.out hb2)
              have HB2 := Lib.hid (HB1.out.trans (hb2.mono HB1.out.size))
              clear hb2
              have HO3 : Hid (w2.ownsRow w.heap.size 9 1 (.slice (some ⟨G, 0, none⟩) 6 6) 6 (strsV (fillE tk fs (j + 1)))) := Lib.hid (by
                rw [HST, strsV_put]
                exact HO2.out)
              clear HST
              rw [HNX.out]
              go_wp2_with fail
              go_roundw
              case rel => exact ⟨j + 1, by omega, by go_num, rfl, HO3, HB2⟩
              case measure => simp [intOf]; omega
            · have HIF : Hid ((tk j && decide (j ≠ 5)) = false) := Lib.hid (by rw [htk]; simp [j5])
              have HST := fillE_step tk fs j hlt
              rw [HIF.out] at HST
              simp only [if_true, Bool.false_eq_true, if_false] at HST
              have q5 : ((j : Int) != 5) = false := by simp only [bne_eq_false_iff_eq]; omega
              rw [htk] at HTj
              have HNX : Hid ((nxO tk j) = nxO tk (j + 1)) := Lib.hid (by subst j5; rfl)
              have hdf := Lib.hid (fun W => default_any j hlt W)
              have ST1 := hO.out.stored j (.string (dflt j))
              have hcj : ∃ V, wr.cell? ⟨G, j, none⟩ = some V := by
                rw [hO.out.cellAt j (by omega)]
                exact ⟨_, List.getElem?_eq_getElem (by simp [strsV, fillE_len]; omega)⟩
              obtain ⟨V, hV⟩ := hcj
              have hVf := hO.out.frozenAt j
              have HO1 : Hid ((wr.setCell ⟨G, j, none⟩ (.string (dflt j))).ownsRow w.heap.size 9 1 (.slice (some ⟨G, 0, none⟩) 6 6) 6 ((strsV (fillE tk fs j)).set j (.string (dflt j)))) := Lib.hid ST1.1
              have HB1 : Hid (Below w.heap.size w (wr.setCell ⟨G, j, none⟩ (.string (dflt j)))) := Lib.hid (Below.setCell hb.out hGw _)
              clear ST1 htk j5
              go_wp2_with fail
              refine (hdf.out _).mono ?_
              rintro e wd ⟨rfl, rfl⟩
              go_wp2_with fail
              refine (HTj.out _).mono ?_
              rintro e w2 ⟨rfl, hb2⟩
              have HO2 := Lib.hid (own_below HO1.out hb2)
              have HB2 := Lib.hid (HB1.out.trans (hb2.mono HB1.out.size))
              clear hb2
              have HO3 : Hid (w2.ownsRow w.heap.size 9 1 (.slice (some ⟨G, 0, none⟩) 6 6) 6 (strsV (fillE tk fs (j + 1)))) := Lib.hid (by
                rw [HST, strsV_put]
                exact HO2.out)
              clear HST
              rw [HNX.out]
              go_wp2_with fail
              go_roundw
              case rel => exact ⟨j + 1, by omega, by go_num, rfl, HO3, HB2⟩
              case measure => simp [intOf]; omega
          · cases htk : tk j
            · have HIF : Hid ((tk j && decide (j ≠ 5)) = false) := Lib.hid (by rw [htk]; rfl)
              have HST := fillE_step tk fs j hlt
              rw [HIF.out] at HST
              simp only [if_true, Bool.false_eq_true, if_false] at HST
              have q5 : ((j : Int) != 5) = true := by simp only [bne_iff_ne]; omega
              rw [htk] at HTj
              have HNX : Hid ((nxO tk j) = nxO tk (j + 1)) := Lib.hid (by rw [nxO_lt tk (by omega : j + 1 ≤ 5), nxO_lt tk (by omega : j ≤ 5)]; show _ = cntT tk j + (if tk j = true then 1 else 0); rw [htk]; simp)
              have hdf := Lib.hid (fun W => default_any j hlt W)
              have ST1 := hO.out.stored j (.string (dflt j))
              have hcj : ∃ V, wr.cell? ⟨G, j, none⟩ = some V := by
                rw [hO.out.cellAt j (by omega)]
                exact ⟨_, List.getElem?_eq_getElem (by simp [strsV, fillE_len]; omega)⟩
              obtain ⟨V, hV⟩ := hcj
              have hVf := hO.out.frozenAt j
              have HO1 : Hid ((wr.setCell ⟨G, j, none⟩ (.string (dflt j))).ownsRow w.heap.size 9 1 (.slice (some ⟨G, 0, none⟩) 6 6) 6 ((strsV (fillE tk fs j)).set j (.string (dflt j)))) := Lib.hid ST1.1
              have HB1 : Hid (Below w.heap.size w (wr.setCell ⟨G, j, none⟩ (.string (dflt j)))) := Lib.hid (Below.setCell hb.out hGw _)
              clear ST1 htk j5
              go_wp2_with fail
              refine (hdf.out _).mono ?_
              rintro e wd ⟨rfl, rfl⟩
              go_wp2_with fail
              refine (HTj.out _).mono ?_
              rintro e w2 ⟨rfl, hb2⟩
              have HO2 := Lib.hid (own_below HO1.out hb2)
              have HB2 := Lib.hid (HB1.out.trans (hb2.mono HB1.out.size))
              clear hb2
              have HO3 : Hid (w2.ownsRow w.heap.size 9 1 (.slice (some ⟨G, 0, none⟩) 6 6) 6 (strsV (fillE tk fs (j + 1)))) := Lib.hid (by
                rw [HST, strsV_put]
                exact HO2.out)
              clear HST
              rw [HNX.out]
              go_wp2_with fail
              go_roundw
              case rel => exact ⟨j + 1, by omega, by go_num, rfl, HO3, HB2⟩
              case measure => simp [intOf]; omega
            · have HIF : Hid ((tk j && decide (j ≠ 5)) = true) := Lib.hid (by rw [htk]; simp [j5])
              have HST := fillE_step tk fs j hlt
              rw [HIF.out] at HST
              simp only [if_true, Bool.false_eq_true, if_false] at HST
              have q5 : ((j : Int) != 5) = true := by simp only [bne_iff_ne]; omega
              rw [htk] at HTj
              have HNX : Hid ((((nxO tk j : Nat) : Int) + 1) = ((nxO tk (j + 1) : Nat) : Int)) := Lib.hid (by rw [nxO_lt tk (by omega : j + 1 ≤ 5), nxO_lt tk (by omega : j ≤ 5)]; show _ = ((cntT tk j + (if tk j = true then 1 else 0) : Nat) : Int); rw [htk]; simp)
              have hlen : cntT tk j < fs.length := by
                have h1 : cntT tk (j + 1) = cntT tk j + (if tk j = true then 1 else 0) := rfl
                rw [htk, if_pos rfl] at h1
                have h2 := cnt_mono tk (j + 1) 5 (by omega)
                have h3 := HN.out
                have h4 := HM.out
                have h5 : cntT tk 6 ≤ cntT tk 5 + 1 := by show cntT tk 5 + (if tk 5 = true then 1 else 0) ≤ _; split <;> omega
                have h6 : cntT tk 5 + 1 = cntT tk 6 := by show _ = cntT tk 5 + (if tk 5 = true then 1 else 0); rw [HT5.out]; rfl
                omega
              have hlN : nxO tk j < N := by rw [HN.out, nxO_lt tk (by omega : j ≤ 5)]; exact hlen
              have hcw : w.cell? ⟨b, off + nxO tk j, none⟩ = some (.string fs[cntT tk j]) := by rw [nxO_lt tk (by omega : j ≤ 5)]; exact HC.out (cntT tk j) fs[cntT tk j] (List.getElem?_eq_getElem hlen)
              have hdf := Lib.hid (fun W => default_any j hlt W)
              have ST1 := hO.out.stored j (.string (dflt j))
              have hcj : ∃ V, wr.cell? ⟨G, j, none⟩ = some V := by
                rw [hO.out.cellAt j (by omega)]
                exact ⟨_, List.getElem?_eq_getElem (by simp [strsV, fillE_len]; omega)⟩
              obtain ⟨V, hV⟩ := hcj
              have hVf := hO.out.frozenAt j
              have HO1 : Hid ((wr.setCell ⟨G, j, none⟩ (.string (dflt j))).ownsRow w.heap.size 9 1 (.slice (some ⟨G, 0, none⟩) 6 6) 6 ((strsV (fillE tk fs j)).set j (.string (dflt j)))) := Lib.hid ST1.1
              have HB1 : Hid (Below w.heap.size w (wr.setCell ⟨G, j, none⟩ (.string (dflt j)))) := Lib.hid (Below.setCell hb.out hGw _)
              clear ST1 htk j5
              go_wp2_with fail
              refine (hdf.out _).mono ?_
              rintro e wd ⟨rfl, rfl⟩
              go_wp2_with fail
              refine (HTj.out _).mono ?_
              rintro e w2 ⟨rfl, hb2⟩
              have HO2 := Lib.hid (own_below HO1.out hb2)
              have HB2 := Lib.hid (HB1.out.trans (hb2.mono HB1.out.size))
              clear hb2
              have hcf : w2.cell? ⟨b, off + nxO tk j, none⟩ = some (.string fs[cntT tk j]) := cellB HB2.out hcw
              have HST2 := HO2.out.stored j (.string fs[cntT tk j])
              have hcj2 : ∃ V, w2.cell? ⟨G, j, none⟩ = some V := by
                rw [HO2.out.cellAt j (by omega)]
                exact ⟨_, List.getElem?_eq_getElem (by simp [strsV, fillE_len]; omega)⟩
              obtain ⟨V2, hV2⟩ := hcj2
              have hVf2 := HO2.out.frozenAt j
              have HO3 : Hid ((w2.setCell ⟨G, j, none⟩ (.string fs[cntT tk j])).ownsRow w.heap.size 9 1 (.slice (some ⟨G, 0, none⟩) 6 6) 6 (strsV (fillE tk fs (j + 1)))) := Lib.hid (by
                rw [HST, strsV_put]
                have h9 := HST2.1
                rw [List.set_set] at h9
                simpa [List.getD, hlen] using h9)
              have HB3 : Hid (Below w.heap.size w (w2.setCell ⟨G, j, none⟩ (.string fs[cntT tk j]))) := Lib.hid (Below.setCell HB2.out hGw _)
              generalize fs[cntT tk j] = x at hcf HO3 HB3
              clear hcw hlen HST HST2
              generalize nxO tk j = c at hcf HNX hlN
              go_wp2_with fail
              rw [HNX.out]
              go_roundw
              case rel => exact ⟨j + 1, by omega, by go_num, rfl, HO3, HB3⟩
              case measure => simp [intOf]; omega
        · have ej : j = 6 := by omega
          subst ej
          go_wp2_with fail
          go_ret2
          exact ⟨G, rfl, hGw, hO.out, hb.out⟩
end Go.Proofs.YtkhggefbkhdimaaGreatDoor

namespace Go.Proofs.YtkhggefbkhdimaaGreatDoor
open Go.RowKit
set_option linter.unusedVariables false
set_option linter.unusedSimpArgs false

theorem fill_exp (tk : Nat → Bool) (fs : List ByteArray) (hn : fs.length + 1 = cntT tk 6) (t5 : tk 5 = true) : fillE tk fs 6 = expE tk (fs ++ [starT]) 6 := by
  unfold fillE expE
  refine List.map_congr_left (fun i hi => ?_)
  have hi6 := List.mem_range.1 hi
  have h6 : cntT tk 6 = cntT tk 5 + 1 := by
    show cntT tk 5 + (if tk 5 = true then 1 else 0) = _
    rw [t5]; rfl
  rw [if_pos hi6, decide_eq_true hi6, Bool.true_and]
  by_cases h5 : i = 5
  · subst h5
    rw [t5]
    have : fs.length = cntT tk 5 := by omega
    simp [List.getD, ← this, dflt]
  · cases htk : tk i with
    | false => simp
    | true =>
      have h1 : cntT tk (i + 1) = cntT tk i + (if tk i = true then 1 else 0) := rfl
      rw [htk, if_pos rfl] at h1
      have h2 := cnt_mono tk (i + 1) 5 (by omega)
      have hl : cntT tk i < fs.length := by omega
      simp [h5, List.getD, List.getElem?_append_left hl]
end Go.Proofs.YtkhggefbkhdimaaGreatDoor
