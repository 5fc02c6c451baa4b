/- spec.CronWhole. -/
import Derived.Test.YtcbcmbkioibliaaDoorCrRange
import Derived.Deep.MidRow
namespace Go.Proofs.YtcbcmbkioibliaaDoor
open Go.RowKit Go.Shelf
set_option linter.unusedVariables false
set_option linter.unusedSimpArgs false

theorem there_new (W : World) (cs : Array Value) (t : TypeId) (g n : Nat) (hg : g = W.heap.size) (hn : n = cs.size) : (W.alloc (.cells cs t)).there g 0 n := by
  subst hg; subst hn
  have h := heap_alloc_new W (.cells cs t)
  intro j hj
  constructor
  · rw [cell_of_row _ _ _ cs t (0, 0) h]
    simp [hj]
  · unfold World.frozen?
    rw [h]
    simp
theorem info35 : (Tryd.prog.info? 35).map (·.size) = some 64 := by kernel_rfl
theorem below_setCells {B b : Nat} {X : World} (hB : B ≤ b) : ∀ (vs : List Value) (o : Nat) (w : World), Below B X w → Below B X (w.setCells b o vs)
  | [], _, _, h => h
  | v :: r, o, w, h => by
    unfold World.setCells
    exact below_setCells hB r (o + 1) _ (Below.setCell h hB _)
/-- A set's cells: a star, and the values of f. -/
def boolAt (f : Nat → Bool) : List Value := .bool true :: (List.range 63).map (fun i => .bool (f i))
theorem boolAt_len (f : Nat → Bool) : (boolAt f).length = 64 := by simp [boolAt]
theorem boolAt_get (f : Nat → Bool) (i : Nat) (hi : i < 63) : (boolAt f)[i + 1]? = some (.bool (f i)) := by
  simp [boolAt, hi]
theorem boolAt_cell {w : World} {g : Nat} {f : Nat → Bool} (h : w.rangeAt g 0 (boolAt f)) (i : Nat) (hi : i < 63) : w.cell? ⟨g, 1 + i, none⟩ = some (.bool (f i)) := by
  have := h (i + 1) _ (boolAt_get f i hi)
  rw [show 0 + (i + 1) = 1 + i by omega] at this
  exact this
theorem boolAt_set {w : World} {g : Nat} {f f2 : Nat → Bool} (h : w.rangeAt g 0 (boolAt f)) (n : Nat) (hn : n < 63) (hf : ∀ i, f2 i = (f i || decide (i = n))) : (w.setCell ⟨g, 1 + n, none⟩ (.bool true)).rangeAt g 0 (boolAt f2) := by
  intro j v hv
  have hj : j < 64 := by
    have := List.getElem?_eq_some_iff.1 hv
    obtain ⟨h1, _⟩ := this
    rw [boolAt_len] at h1
    exact h1
  by_cases e : j = 1 + n
  · subst e
    rw [show 1 + n = n + 1 by omega, boolAt_get f2 n hn] at hv
    have hv2 := Option.some.inj hv
    subst hv2
    rw [show 0 + (1 + n) = 1 + n by omega, World.cell?_setCell_same _ _ _ (boolAt_cell h n hn), hf n]
    simp
  · rw [World.cell?_setCell_other _ _ _ _ (by intro e2; injection e2 with _ e3; omega)]
    refine h j v ?_
    rcases j with _ | j
    · exact hv
    · rw [boolAt_get f j (by omega)]
      rw [boolAt_get f2 j (by omega)] at hv
      rw [← hv, hf j]
      have : decide (j = n) = false := decide_eq_false (by omega)
      rw [this]; simp
theorem there_set {w : World} {g n b o : Nat} {v : Value} (h : w.there g 0 n) : (w.setCell ⟨b, o, none⟩ v).there g 0 n := World.there_setCells h b o [v]

theorem boolAt_one (f : Nat → Bool) : (boolAt f).toArray.all (·.oneCell') = true := all_oneCell_toArray (fun v hv => by
  unfold boolAt at hv
  rcases List.mem_cons.1 hv with rfl | hv
  · rfl
  · obtain ⟨i, _, rfl⟩ := List.mem_map.1 hv
    rfl)
/-- A call answers a number and leaves all as it was. -/
def NumIs (f : Nat) (k : Int) (n : Nat) : Prop := ∀ W : World, Calls Tryd.prog f #[.int .i64 k] W fun e w' => e = .returned (.int .i64 n) ∧ W = w'

set_option maxRecDepth 100000 in
set_option maxHeartbeats 4000000 in
theorem whole_any (k : Int) (low high : Nat) (hl : low ≤ high) (hh : high ≤ 62) (HL : Hid (NumIs 19 k low)) (HH : Hid (NumIs 20 k high)) (F : Nat → Bool) (hF : Hid (∀ i, F i = (decide (low ≤ i) && decide (i < high + 1)))) (w : World) :
    Calls Tryd.prog 12 #[.int .i64 k] w fun e w' => e = .returned (.agg (boolAt F).toArray) ∧ Below w.heap.size w w' := by
  go_enter Tryd.func12, Tryd.ntmps12
  go_wp2_with (first | (refine wpList_store_mid rfl 35 (.tmp 3) (.tmp 5) rfl (w.heap.size + 1) 0 _ (by simp [Act.eval]) rfl (there_new _ _ _ _ _ (by simp) (by kernel_rfl)) (info35.trans (by kernel_rfl)) (by kernel_rfl) (stop_here ?_)))
  generalize hW : World.setCells _ _ _ _ = W2
  have R2 : W2.rangeAt (w.heap.size + 1) 0 (boolAt (fun i => decide (low ≤ i) && decide (i < low))) := by
    rw [← hW]
    have e : boolAt (fun i => decide (low ≤ i) && decide (i < low)) = boolAt (fun _ => false) := by
      congr 1
      funext i
      by_cases h : low ≤ i
      · simp [h, show ¬ i < low by omega]
      · simp [h]
    rw [e]
    exact World.rangeAt_setCells_same _ _ _ _ (there_new _ _ _ _ _ (by simp) (by kernel_rfl))
  have T2 : W2.there (w.heap.size + 1) 0 64 := by rw [← hW]; exact World.there_setCells (there_new _ _ _ _ _ (by simp) (by kernel_rfl)) _ _ _
  have T1 : W2.there w.heap.size 0 64 := by rw [← hW]; exact World.there_setCells (World.there_alloc (there_new _ _ _ _ _ rfl (by kernel_rfl)) _) _ _ _
  have bk : Below w.heap.size w W2 := by rw [← hW]; exact below_setCells (by omega) _ _ _ (Below.alloc (Below.alloc (Below.refl _ _) (Nat.le_refl _) _) (by simp) _)
  clear hW
  generalize Value.agg _ = V5
  unfold Stop
  go_wp2_with fail
  refine (HL.out _).mono ?_
  rintro e w' ⟨rfl, rfl⟩
  go_wp2_with fail
  have HR2 := Lib.hid R2
  have HT2 := Lib.hid T2
  have HT1 := Lib.hid T1
  clear R2 T2 T1
  go_loopw [4] (fun v wr => ∃ n : Nat, low ≤ n ∧ n ≤ high + 1 ∧ v = .int .i64 n ∧ Hid (wr.rangeAt (w.heap.size + 1) 0 (boolAt (fun i => decide (low ≤ i) && decide (i < n)))) ∧ Hid (wr.there (w.heap.size + 1) 0 64) ∧ Hid (wr.there w.heap.size 0 64) ∧ Below w.heap.size w wr) (fun v _ => high + 1 - (intOf v).toNat)
  case atStart => exact ⟨low, Nat.le_refl _, by omega, rfl, HR2, HT2, HT1, bk⟩
  case round =>
    obtain ⟨n, hn1, hn2, rfl, hR, hT2, hT1, hbr⟩ := hrel
    go_wp2_with fail
    refine (HH.out _).mono ?_
    rintro e w' ⟨rfl, rfl⟩
    by_cases hlt : n ≤ high
    · have c1 : wr.cell? ⟨w.heap.size + 1, 1 + n, none⟩ = some (.bool (decide (low ≤ n) && decide (n < n))) := boolAt_cell hR.out n (by omega)
      have f1 : wr.frozen? ⟨w.heap.size + 1, 1 + n, none⟩ = false := by
        have := (hT2.out (1 + n) (by omega)).2
        rw [show 0 + (1 + n) = 1 + n by omega] at this
        exact this
      have hR2 := Lib.hid (boolAt_set (f2 := fun i => decide (low ≤ i) && decide (i < n + 1)) hR.out n (by omega) (fun i => by
        by_cases h1 : i = n
        · subst h1; simp [hn1]
        · by_cases h2 : i < n
          · simp [h1, h2, show i < n + 1 by omega]
          · simp [h1, h2, show ¬ i < n + 1 by omega]))
      have hT3 : Hid ((wr.setCell ⟨w.heap.size + 1, 1 + n, none⟩ (.bool true)).there (w.heap.size + 1) 0 64) := there_set hT2.out
      have hT4 : Hid ((wr.setCell ⟨w.heap.size + 1, 1 + n, none⟩ (.bool true)).there w.heap.size 0 64) := there_set hT1.out
      have hb2 : Below w.heap.size w (wr.setCell ⟨w.heap.size + 1, 1 + n, none⟩ (.bool true)) := Below.setCell hbr (by show w.heap.size ≤ w.heap.size + 1; omega) _
      go_wp2_with fail
      go_roundw
      case rel => exact ⟨n + 1, by omega, by omega, by go_num, hR2, hT3, hT4, hb2⟩
      case measure => simp [intOf]; omega
    · have e : n = high + 1 := by omega
      subst e
      rw [show (fun i => decide (low ≤ i) && decide (i < high + 1)) = F from funext fun i => (hF.out i).symm] at hR
      go_wp2_with (first | (refine wpList_load_mid rfl 35 (.tmp 3) rfl (w.heap.size + 1) 0 (by simp [Act.eval]) (boolAt F) _ hR.out Tryd.underlying35 rfl (info35.trans (by rw [boolAt_len])) ?_) | (refine wpList_store_mid rfl 35 (.tmp 2) (.tmp 17) rfl w.heap.size 0 (boolAt F).toArray rfl rfl (by simpa [boolAt_len] using hT1.out) (info35.trans (by simp [boolAt_len])) (boolAt_one F) ?_))
      have hT4 := hT1.out
      have hfin : ((wr.setCells w.heap.size 0 (boolAt F).toArray.toList)).rangeAt w.heap.size 0 (boolAt F) := by
        have := World.rangeAt_setCells_same wr w.heap.size 0 (boolAt F) (by rw [boolAt_len]; exact hT4)
        simpa using this
      have hbel : Below w.heap.size w (wr.setCells w.heap.size 0 (boolAt F).toArray.toList) := below_setCells (Nat.le_refl _) _ _ _ hbr
      refine bodyPost_ret (v := .agg (boolAt F).toArray) ?_ rfl ⟨rfl, hbel⟩
      have e9 : (boolAt F).toArray.toList = boolAt F := by simp
      rw [e9] at hfin
      generalize wr.setCells w.heap.size 0 (boolAt F) = W9 at hfin ⊢
      have hlv := run_loadVar_mid (P := Tryd.prog) W9 w.heap.size 0 35 (boolAt F) _ hfin Tryd.underlying35 rfl (info35.trans (by rw [boolAt_len]))
      clear hR hT1 hT2 hT4 hfin hbel e9
      generalize (boolAt F).toArray = V9 at hlv ⊢
      simp [results, Tryd.results12, Act.put, Sem.run_bind, asAddr, hlv]
end Go.Proofs.YtcbcmbkioibliaaDoor
