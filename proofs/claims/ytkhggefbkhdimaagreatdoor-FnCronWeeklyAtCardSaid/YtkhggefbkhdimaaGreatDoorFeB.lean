/- cron.places, defaults, normalizeFields. -/
import Derived.Test.YtkhggefbkhdimaaGreatDoorFeA
import Derived.Test.YtkhggefbkhdimaaGreatDoorFdU
import Derived.Lib.BufferOwn
import Derived.Test.YtkhggefbkhdimaaGreatDoorFdX
import Derived.Laws.CopyOwn
namespace Go.Proofs.YtkhggefbkhdimaaGreatDoor
open Go.RowKit
set_option linter.unusedVariables false
set_option linter.unusedSimpArgs false

def place : Nat → Int
  | 0 => 1 | 1 => 4 | 2 => 8 | 3 => 16 | 4 => 32 | _ => 64
def zeroT : ByteArray := ⟨#[48]⟩
def starT : ByteArray := ⟨#[42]⟩
def dflt : Nat → ByteArray
  | 0 => zeroT | 1 => zeroT | 2 => zeroT | _ => starT
set_option maxHeartbeats 1000000 in
theorem places_any (w : World) : Calls Tryz.prog 101 #[] w fun e w' => ∃ g, e = .returned (.slice (some ⟨g, 0, none⟩) 6 6) ∧ (∀ i, i < 6 → w'.cell? ⟨g, i, none⟩ = some (.int .i64 (place i))) ∧ w.heap.size ≤ g ∧ Below w.heap.size w w' := by
  go_enter Tryz.func101, Tryz.ntmps101
  go_wp2_with fail
  go_ret
  refine ⟨w.heap.size, rfl, fun i hi => ?_, Nat.le_refl _, Below.alloc (Below.refl _ _) (Nat.le_refl _) _⟩
  rw [cell_of_row _ _ i _ _ (0, 0) (heap_alloc_new w _)]
  have h : i = 0 ∨ i = 1 ∨ i = 2 ∨ i = 3 ∨ i = 4 ∨ i = 5 := by omega
  rcases h with rfl | rfl | rfl | rfl | rfl | rfl <;> rfl
set_option maxHeartbeats 1000000 in
theorem defaults_any (w : World) : Calls Tryz.prog 102 #[] w fun e w' => ∃ g, e = .returned (.slice (some ⟨g, 0, none⟩) 6 6) ∧ (∀ i, i < 6 → w'.cell? ⟨g, i, none⟩ = some (.string (dflt i))) ∧ Below w.heap.size w w' := by
  go_enter Tryz.func102, Tryz.ntmps102
  go_wp2_with fail
  go_ret
  refine ⟨w.heap.size, rfl, fun i hi => ?_, Below.alloc (Below.refl _ _) (Nat.le_refl _) _⟩
  rw [cell_of_row _ _ i _ _ (0, 0) (heap_alloc_new w _)]
  have h : i = 0 ∨ i = 1 ∨ i = 2 ∨ i = 3 ∨ i = 4 ∨ i = 5 := by omega
  rcases h with rfl | rfl | rfl | rfl | rfl | rfl <;> rfl
/-- How many of the first places are taken. -/
def cntT (tk : Nat → Bool) : Nat → Nat
  | 0 => 0
  | i + 1 => cntT tk i + (if tk i = true then 1 else 0)
theorem cnt_mono (tk : Nat → Bool) : ∀ i j, i ≤ j → cntT tk i ≤ cntT tk j
  | i, 0, h => by have : i = 0 := by omega
                  subst this; exact Nat.le_refl _
  | i, j + 1, h => by
    by_cases e : i = j + 1
    · subst e; exact Nat.le_refl _
    · have := cnt_mono tk i j (by omega)
      rw [show cntT tk (j + 1) = cntT tk j + (if tk j = true then 1 else 0) from rfl]
      omega
theorem cnt_le (tk : Nat → Bool) : ∀ i, cntT tk i ≤ i
  | 0 => Nat.le_refl _
  | i + 1 => by unfold cntT; have := cnt_le tk i; split <;> omega
/-- The six fields' texts, the first n places filled in. -/
def expE (tk : Nat → Bool) (fs : List ByteArray) (n : Nat) : List ByteArray := (List.range 6).map (fun i => if decide (i < n) && tk i then fs.getD (cntT tk i) noStr else dflt i)
theorem expE_len (tk : Nat → Bool) (fs : List ByteArray) (n : Nat) : (expE tk fs n).length = 6 := by simp [expE]
theorem expE_no (tk : Nat → Bool) (fs : List ByteArray) (n : Nat) (h : tk n = false) : expE tk fs (n + 1) = expE tk fs n := by
  unfold expE
  refine List.map_congr_left (fun i _ => ?_)
  by_cases e : i = n
  · subst e; simp [h]
  · by_cases l : i < n
    · simp [l, show i < n + 1 by omega]
    · simp [l, show ¬ i < n + 1 by omega]
theorem expE_yes (tk : Nat → Bool) (fs : List ByteArray) (n : Nat) (hn : n < 6) (h : tk n = true) : expE tk fs (n + 1) = (expE tk fs n).set n (fs.getD (cntT tk n) noStr) := by
  refine List.ext_getElem (by simp [expE]) (fun i h1 h2 => ?_)
  simp only [expE, List.getElem_map, List.getElem_range]
  rw [List.getElem_set]
  by_cases e : n = i
  · subst e
    rw [if_pos rfl]
    simp [h]
  · rw [if_neg e]
    simp only [List.getElem_map, List.getElem_range]
    by_cases l : i < n
    · simp [l, show i < n + 1 by omega]
    · simp [l, show ¬ i < n + 1 by omega]

theorem strsV_put (O : List ByteArray) (i : Nat) (x : ByteArray) : strsV (O.set i x) = (strsV O).set i (.string x) := by simp [strsV, List.map_set]
theorem expE_zero (tk : Nat → Bool) (fs : List ByteArray) : strsV (expE tk fs 0) = (List.range 6).map (fun i => Value.string (dflt i)) := by
  unfold expE strsV
  rw [List.map_map]
  refine List.map_congr_left (fun i _ => ?_)
  simp
theorem infoS1 : (Tryz.prog.info? 9).map (·.size) = some 1 := by kernel_rfl
/-- A row of six cells is a slice of the call's own. -/
theorem row_own {w : World} {B g : Nat} {xs : List Value} (hl : xs.length = 6) (hg : w.heap[g]? = some (.cells xs.toArray 9 (0, 0))) (hB : B ≤ g) : w.ownsRow B 9 1 (.slice (some ⟨g, 0, none⟩) 6 6) 6 xs :=
  ⟨by rw [hl], .inr ⟨g, 6, xs.toArray, rfl, hB, hg, Nat.le_refl _, by unfold maxLen; decide, by simpa using hl, by rw [List.take_of_length_le (by simp [hl])]⟩⟩

set_option maxRecDepth 100000 in
set_option maxHeartbeats 4000000 in
theorem norm_plain (o : Int) (tk : Nat → Bool) (q2 : decide (0 < bits .and .i64 o 2) = false) (q7 : decide (0 < bits .and .i64 o 128) = false) (HT : Hid (∀ i, i < 6 → decide (0 < bits .and .i64 o (place i)) = tk i))
    (v : Value) (fs : List ByteArray) (w : World) (hs : SlOf RStr 1 w v fs) (hl : fs ≠ []) (hn : fs.length = cntT tk 6) :
    Calls Tryz.prog 68 #[v, .int .i64 o] w fun e w' => ∃ G, e = .returned (.tuple #[.slice (some ⟨G, 0, none⟩) 6 6, .nilIface]) ∧ w.heap.size ≤ G ∧ w'.ownsRow w.heap.size 9 1 (.slice (some ⟨G, 0, none⟩) 6 6) 6 (strsV (expE tk fs 6)) ∧ Below w.heap.size w w' := by
  obtain ⟨i0, hi, hz0, hz1, hz2⟩ := info_parts Tryz.infoStr
  obtain ⟨b, off, cap, rfl, hc⟩ := strs_open hs hl
  have HC := Lib.hid hc
  clear hc hs
  obtain ⟨N, hN⟩ : ∃ N, N = fs.length := ⟨_, rfl⟩
  rw [← hN] at hn ⊢
  have HN := Lib.hid hN
  have HM := Lib.hid hn
  have hN6 : N ≤ 6 := by rw [hn]; exact cnt_le tk 6
  clear hn hN
  go_enter Tryz.func68, Tryz.ntmps68
  go_wp2_with fail
  refine (places_any _).mono ?_
  rintro e w1 ⟨g1, rfl, hp1, _, hb1⟩
  have HP1 := Lib.hid hp1
  have HB1 := Lib.hid hb1
  clear hp1 hb1
  go_wp2_with fail
  go_loop [7, 35] (fun mx i => ∃ j : Nat, j ≤ 6 ∧ i = .int .i64 j ∧ mx = .int .i64 (cntT tk j : Nat)) (fun _ i => 6 - (intOf i).toNat)
  case atStart => exact ⟨0, by omega, rfl, rfl⟩
  case round =>
    obtain ⟨j, hj, rfl, rfl⟩ := hrel
    by_cases hlt : j < 6
    · have hy := HP1.out j hlt
      have q8 : decide ((j : Int) < 6) = true := decide_eq_true (by omega)
      have ht := HT.out j hlt
      have hcl := cnt_le tk j
      have HCN : Hid (cntT tk (j + 1) = cntT tk j + (if tk j = true then 1 else 0)) := Lib.hid rfl
      generalize place j = p at hy ht
      cases htk : tk j with
      | true =>
        rw [htk] at ht
        have HCN2 : Hid ((((cntT tk j : Nat) : Int) + 1) = ((cntT tk (j + 1) : Nat) : Int)) := Lib.hid (by rw [HCN.out, htk]; simp)
        clear htk
        go_wp2_with fail
        rw [HCN2.out]
        go_round
        case rel => exact ⟨j + 1, by omega, by go_num, rfl⟩
        case measure => simp [intOf]; omega
      | false =>
        rw [htk] at ht
        have HCN2 : Hid (cntT tk (j + 1) = cntT tk j) := Lib.hid (by rw [HCN.out, htk]; simp)
        clear htk
        go_wp2_with fail
        go_round
        case rel => exact ⟨j + 1, by omega, by go_num, by rw [HCN2.out]⟩
        case measure => simp [intOf]; omega
    · have ej : j = 6 := by omega
      subst ej
      rw [← HM.out]
      go_wp2_with fail
      refine (places_any _).mono ?_
      rintro e w2 ⟨g2, rfl, hp2, _, hb2⟩
      have HB2 := Lib.hid (HB1.out.trans (hb2.mono HB1.out.size))
      clear hp2 hb2
      go_wp2_with (at_make; refine stop_here ?_)
      unfold Stop
      refine wpList_make_full _ rfl _ _ 39 rfl w.heap.size 9 i0 (.string ByteArray.empty) 1 Tryz.underlying39 hi hz0 hz1 .i64 .i64 _ _ 6 rfl rfl rfl rfl (by rw [hz2]; decide) (by unfold maxLen; decide) HB2.out.size ?_
      intro w3 hown3 hg3
      have HB3 : Hid (Below w.heap.size w w3) := Lib.hid (Below.grown HB2.out hg3 HB2.out.size (fun k hk => by cases hk))
      obtain ⟨G, hG⟩ : ∃ G, G = w2.heap.size := ⟨_, rfl⟩
      have hGw : w.heap.size ≤ G := by rw [hG]; exact HB2.out.size
      rw [← hG] at hown3 ⊢
      have hrow : ∃ cur : List Value, cur.length = 6 ∧ w3.heap[G]? = some (.cells cur.toArray 9 (0, 0)) := by
        rcases hown3.2 with ⟨h, _⟩ | ⟨g, cap, cur, h, _, hg, _, _, hcs, _⟩
        · cases h
        · injection h with h1 h2 h3
          injection h1 with h1
          injection h1 with h1
          subst h1
          refine ⟨cur.toList, by rw [Array.length_toList, hcs, ← h3], by simpa using hg⟩
      obtain ⟨cur, hcur, hrow⟩ := hrow
      have HROW := Lib.hid hrow
      clear hown3 hg3 hG hrow
      go_wp2_with fail
      refine (defaults_any _).mono ?_
      rintro e w4 ⟨g4, rfl, hd4, hb4⟩
      have HROW4 : Hid (w4.heap[G]? = some (.cells cur.toArray 9 (0, 0))) := Lib.hid ((hb4.block _ (Array.getElem?_eq_some_iff.1 HROW.out).1).trans HROW.out)
      have HD4 := Lib.hid hd4
      have HB4 := Lib.hid (HB3.out.trans (hb4.mono HB3.out.size))
      clear hd4 hb4
      go_wp2_with (first | (refine wpList_copy_splice rfl (.tmp 97) (.tmp 98) 39 39 rfl 9 Tryz.underlying39 infoS1 (some ⟨G, 0, none⟩) (some ⟨g4, 0, none⟩) 6 6 6 6 rfl rfl G 0 cur 9 HROW4.out ((List.range 6).map (fun i => Value.string (dflt i))) rfl (fun _ => ⟨rfl, _, rfl, fun j v hj => ?cp⟩) (by simp [hcur]) (fun v hv => ?co) w.heap.size w HB4.out hGw (stop_here ?_)))
      case cp =>
        have hj6 : j < 6 := by have := (List.getElem?_eq_some_iff.1 hj).1; simpa using this
        have := HD4.out j hj6
        rw [List.getElem?_map, List.getElem?_range hj6] at hj
        have e := Option.some.inj hj
        rw [← e, add_add0, Nat.zero_add]
        exact this
      case co =>
        obtain ⟨i, _, rfl⟩ := List.mem_map.1 hv
        rfl
      unfold Stop
      intro w5 hr5 hb5
      have hsp : splice cur 0 ((List.range 6).map (fun i => Value.string (dflt i))) = strsV (expE tk fs 0) := by
        rw [expE_zero]
        unfold splice
        simp [hcur]
      have HO5 : Hid (w5.ownsRow w.heap.size 9 1 (.slice (some ⟨G, 0, none⟩) 6 6) 6 (strsV (expE tk fs 0))) := Lib.hid (row_own (by simp [strsV, expE_len]) (by rw [← hsp]; exact hr5.out) hGw)
      have HB5 := Lib.hid hb5
      clear hr5 hb5 hsp
      go_wp2_with fail
      have hG5 : G < w5.heap.size := (HO5.out.lt G rfl).2
      refine (places_any _).mono ?_
      rintro e w6 ⟨g6, rfl, hp6, hg6, hb6⟩
      have HP6 := Lib.hid hp6
      have HO6 : Hid (w6.ownsRow w.heap.size 9 1 (.slice (some ⟨G, 0, none⟩) 6 6) 6 (strsV (expE tk fs 0))) := Lib.hid (own_below HO5.out hb6)
      have HB6 := Lib.hid (HB5.out.trans (hb6.mono HB5.out.size))
      have hGg : G < g6 := by omega
      clear hp6 hb6
      go_wp2_with fail
      go_loopw [12, 102] (fun nv i wr => ∃ j : Nat, j ≤ 6 ∧ i = .int .i64 j ∧ nv = .int .i64 (cntT tk j : Nat) ∧ Hid (wr.ownsRow w.heap.size 9 1 (.slice (some ⟨G, 0, none⟩) 6 6) 6 (strsV (expE tk fs j))) ∧ Hid (w6.grownBy wr (some G))) (fun _ i _ => 6 - (intOf i).toNat)
      case atStart => exact ⟨0, by omega, rfl, rfl, HO6, Lib.hid (World.grownBy.refl _ _)⟩
      case round =>
        obtain ⟨j, hj, rfl, rfl, hO, hGr⟩ := hrel
        by_cases hlt : j < 6
        · have hy : wr.cell? ⟨g6, j, none⟩ = some (.int .i64 (place j)) := hGr.out.cell (HP6.out j hlt) (by intro h; injection h with h; have h : g6 = G := h; omega)
          have q8 : decide ((j : Int) < 6) = true := decide_eq_true (by omega)
          have ht := HT.out j hlt
          have hcl := cnt_le tk j
          have HCN : Hid (cntT tk (j + 1) = cntT tk j + (if tk j = true then 1 else 0)) := Lib.hid rfl
          generalize place j = p at hy ht
          cases htk : tk j with
          | true =>
            rw [htk] at ht
            have hlen : cntT tk j < fs.length := by
              have h1 := HCN.out
              rw [htk, if_pos rfl] at h1
              have h2 := cnt_mono tk (j + 1) 6 (by omega)
              have h3 := HN.out
              have h4 := HM.out
              omega
            have hlN : cntT tk j < N := by rw [HN.out]; exact hlen
            have hcw := HC.out (cntT tk j) fs[cntT tk j] (List.getElem?_eq_getElem hlen)
            have hcf : wr.cell? ⟨b, off + cntT tk j, none⟩ = some (.string fs[cntT tk j]) := hGr.out.cell (cellB HB6.out hcw) (by intro h; injection h with h; have h : b = G := h; have := cellLt hcw; simp at this; omega)
            have HXV : Hid (strsV (expE tk fs (j + 1)) = (strsV (expE tk fs j)).set j (.string fs[cntT tk j])) := Lib.hid (by
              rw [expE_yes tk fs j hlt htk, strsV_put]
              congr 2
              simp [List.getD, hlen])
            have HCN2 : Hid ((((cntT tk j : Nat) : Int) + 1) = ((cntT tk (j + 1) : Nat) : Int)) := Lib.hid (by rw [HCN.out, htk]; simp)
            have HST := Lib.hid (hO.out.stored j (.string fs[cntT tk j]))
            have hcj : ∃ V, wr.cell? ⟨G, j, none⟩ = some V := by
              rw [hO.out.cellAt j (by omega)]
              exact ⟨_, List.getElem?_eq_getElem (by simp [strsV, expE_len]; omega)⟩
            obtain ⟨V, hV⟩ := hcj
            have hVf := hO.out.frozenAt j
            have HO2 : Hid ((wr.setCell ⟨G, j, none⟩ (.string fs[cntT tk j])).ownsRow w.heap.size 9 1 (.slice (some ⟨G, 0, none⟩) 6 6) 6 (strsV (expE tk fs (j + 1)))) := Lib.hid (by rw [HXV.out]; exact HST.out.1)
            have HG2 : Hid (w6.grownBy (wr.setCell ⟨G, j, none⟩ (.string fs[cntT tk j])) (some G)) := Lib.hid (hGr.out.trans HST.out.2)
            generalize fs[cntT tk j] = x at hcf HO2 HG2
            clear hcw hlen htk HXV HST
            generalize cntT tk j = c at hcf HCN2 hlN hcl
            go_wp2_with fail
            rw [HCN2.out]
            go_roundw
            case rel => exact ⟨j + 1, by omega, by go_num, rfl, HO2, HG2⟩
            case measure => simp [intOf]; omega
          | false =>
            rw [htk] at ht
            have HCN2 : Hid (cntT tk (j + 1) = cntT tk j) := Lib.hid (by rw [HCN.out, htk]; simp)
            have HEN := Lib.hid (expE_no tk fs j htk)
            clear htk
            go_wp2_with fail
            go_roundw
            case rel => exact ⟨j + 1, by omega, by go_num, by rw [HCN2.out], by rw [HEN.out]; exact hO, hGr⟩
            case measure => simp [intOf]; omega
        · have ej : j = 6 := by omega
          subst ej
          have HBr : Hid (Below w.heap.size w wr) := Lib.hid (Below.grown HB6.out hGr.out HB6.out.size (fun k hk => by cases hk; exact hGw))
          go_wp2_with fail
          go_ret2
          exact ⟨G, rfl, hGw, hO.out, HBr.out⟩
end Go.Proofs.YtkhggefbkhdimaaGreatDoor
