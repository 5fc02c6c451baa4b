/- spec.CronSetOf. -/
import Derived.Test.YtpgclepiagfgfaaTsB
import Derived.Test.YtpgclepiagfgfaaTmD
import Derived.Deep.MidRow
namespace Go.Proofs.Ytpgclepiagfgfaa
open Go.RowKit
set_option linter.unusedVariables false
set_option linter.unusedSimpArgs false

theorem there_new (W : World) (cs : Array Value) (t : TypeId) (g n : Nat) (hg : g = W.heap.size) (hn : n = cs.size) : (W.alloc (.cells cs t)).there g 0 n := by
  subst hg; subst hn
  have h := heap_alloc_new W (.cells cs t)
  intro j hj
  constructor
  · rw [cell_of_row _ _ _ cs t (0, 0) h]
    simp [hj]
  · unfold World.frozen?
    rw [h]
    simp
theorem infoCS : (Try.prog.info? 44).map (·.size) = some 64 := by kernel_rfl
theorem below_setCells {B b : Nat} {X : World} (hB : B ≤ b) : ∀ (vs : List Value) (o : Nat) (w : World), Below B X w → Below B X (w.setCells b o vs)
  | [], _, _, h => h
  | v :: r, o, w, h => by
    unfold World.setCells
    exact below_setCells hB r (o + 1) _ (Below.setCell h hB _)
/-- A set's cells: its star, and the values of f. -/
def setL (st : Bool) (f : Nat → Bool) : List Value := .bool st :: (List.range 63).map (fun i => .bool (f i))
theorem setL_len (st : Bool) (f : Nat → Bool) : (setL st f).length = 64 := by simp [setL]
theorem setL_get (st : Bool) (f : Nat → Bool) (i : Nat) (hi : i < 63) : (setL st f)[i + 1]? = some (.bool (f i)) := by
  simp [setL, hi]
theorem setL_cell {w : World} {g : Nat} {st : Bool} {f : Nat → Bool} (h : w.rangeAt g 0 (setL st f)) (i : Nat) (hi : i < 63) : w.cell? ⟨g, 1 + i, none⟩ = some (.bool (f i)) := by
  have := h (i + 1) _ (setL_get st f i hi)
  rw [show 0 + (i + 1) = 1 + i by omega] at this
  exact this
theorem setL_set {w : World} {g : Nat} {st : Bool} {f f2 : Nat → Bool} (h : w.rangeAt g 0 (setL st f)) (n : Nat) (hn : n < 63) (v : Bool) (hf : ∀ i, f2 i = if i = n then v else f i) : (w.setCell ⟨g, 1 + n, none⟩ (.bool v)).rangeAt g 0 (setL st f2) := by
  intro j u hv
  have hj : j < 64 := by
    have := List.getElem?_eq_some_iff.1 hv
    obtain ⟨h1, _⟩ := this
    rw [setL_len] at h1
    exact h1
  by_cases e : j = 1 + n
  · subst e
    rw [show 1 + n = n + 1 by omega, setL_get st f2 n hn] at hv
    have hv2 := Option.some.inj hv
    subst hv2
    rw [show 0 + (1 + n) = 1 + n by omega, World.cell?_setCell_same _ _ _ (setL_cell h n hn), hf n, if_pos rfl]
  · rw [World.cell?_setCell_other _ _ _ _ (by intro e2; injection e2 with _ e3; omega)]
    refine h j u ?_
    rcases j with _ | j
    · exact hv
    · rw [setL_get st f j (by omega)]
      rw [setL_get st f2 j (by omega)] at hv
      rw [← hv, hf j, if_neg (by omega)]
theorem setL_star {w : World} {g : Nat} {st st2 : Bool} {f : Nat → Bool} (h : w.rangeAt g 0 (setL st f)) : (w.setCell ⟨g, 0, none⟩ (.bool st2)).rangeAt g 0 (setL st2 f) := by
  intro j u hv
  rcases j with _ | j
  · have hv2 := Option.some.inj hv
    subst hv2
    exact World.cell?_setCell_same _ _ _ (h 0 _ rfl)
  · rw [World.cell?_setCell_other _ _ _ _ (by intro e2; injection e2 with _ e3; omega)]
    exact h (j + 1) u hv
theorem there_set {w : World} {g n b o : Nat} {v : Value} (h : w.there g 0 n) : (w.setCell ⟨b, o, none⟩ v).there g 0 n := World.there_setCells h b o [v]
theorem setL_one (st : Bool) (f : Nat → Bool) : (setL st f).toArray.all (·.oneCell') = true := all_oneCell_toArray (fun v hv => by
  unfold setL at hv
  rcases List.mem_cons.1 hv with rfl | hv
  · rfl
  · obtain ⟨i, _, rfl⟩ := List.mem_map.1 hv
    rfl)
theorem shrBit (b n : Nat) (hb : b < 18446744073709551616) : (bits .and .u64 ((b : Int) / 2 ^ n) 1 == 1) = b.testBit n := by
  have e : (b : Int) / 2 ^ n = ((b / 2 ^ n : Nat) : Int) := by push_cast; rfl
  have hl : b / 2 ^ n < 18446744073709551616 := Nat.lt_of_le_of_lt (Nat.div_le_self _ _) hb
  rw [e, show (1 : Int) = ((1 : Nat) : Int) from rfl, u64_and_nat _ 1 hl (by decide), Nat.testBit_eq_decide_div_mod_eq, show b / 2 ^ n &&& 1 = b / 2 ^ n % 2 from Nat.and_one_is_mod _]
  generalize b / 2 ^ n % 2 = x
  by_cases h : x = 1
  · subst h; rfl
  · have : ((x : Int) == ((1 : Nat) : Int)) = false := by simp; omega
    rw [this]; simp [h]
theorem starNe (s : Nat) (hs : s < 18446744073709551616) : (bits .and .u64 (s : Int) 9223372036854775808 != 0) = s.testBit 63 := by
  rw [show (9223372036854775808 : Int) = ((2 ^ 63 : Nat) : Int) from rfl, u64_and_nat s (2 ^ 63) hs (by decide), Nat.and_comm, pow_and]
  cases s.testBit 63 <;> rfl
/-- A call answers a number and leaves all as it was. -/
def NumIs (f : Nat) (k : Int) (n : Nat) : Prop := ∀ W : World, Calls Try.prog f #[.int .i64 k] W fun e w' => e = .returned (.int .i64 n) ∧ W = w'

set_option maxRecDepth 100000 in
set_option maxHeartbeats 4000000 in
theorem setOf_any (k : Int) (low high : Nat) (hl : low ≤ high) (hh : high ≤ 62) (HL : Hid (NumIs 46 k low)) (HH : Hid (NumIs 47 k high)) (b : Nat) (hb : b < 18446744073709551616) (F : Nat → Bool) (hF : Hid (∀ i, F i = (decide (low ≤ i) && decide (i < high + 1) && b.testBit i))) (w : World) :
    Calls Try.prog 43 #[.int .i64 k, .int .u64 b] w fun e w' => e = .returned (.agg (setL (b.testBit 63) F).toArray) ∧ Below w.heap.size w w' := by
  obtain ⟨st, Hs⟩ : ∃ st, Hid (b.testBit 63 = st) := ⟨_, rfl⟩
  rw [Hs.out]
  go_enter Try.func43, Try.ntmps43
  go_wp2_with fail
  refine (HL.out _).mono ?_
  rintro e w' ⟨rfl, rfl⟩
  go_wp2_with fail
  refine wp_named ?_
  intro W2 hW2
  have R2 : W2.rangeAt (w.heap.size + 1) 0 (setL false (fun i => decide (low ≤ i) && decide (i < low) && b.testBit i)) := by
    have e : setL false (fun i => decide (low ≤ i) && decide (i < low) && b.testBit i) = setL false (fun _ => false) := by
      congr 1
      funext i
      by_cases h : low ≤ i
      · simp [h, show ¬ i < low by omega]
      · simp [h]
    rw [e, ← hW2]
    intro j v hv
    rw [show 0 + j = j by omega, cell_of_row _ _ j (setL false (fun _ => false)).toArray 44 (0, 0) (by
      have := heap_alloc_new (w.alloc (.cells (setL false (fun _ => false)).toArray 44)) (.cells (setL false (fun _ => false)).toArray 44)
      rw [show (w.alloc (.cells (setL false (fun _ => false)).toArray 44)).heap.size = w.heap.size + 1 by simp] at this
      exact this)]
    simpa using hv
  have T2 : W2.there (w.heap.size + 1) 0 64 := by rw [← hW2]; exact there_new _ _ _ _ _ (by simp) (by kernel_rfl)
  have T1 : W2.there w.heap.size 0 64 := by rw [← hW2]; exact World.there_alloc (there_new _ _ _ _ _ rfl (by kernel_rfl)) _
  have bk : Below w.heap.size w W2 := by rw [← hW2]; exact Below.alloc (Below.alloc (Below.refl _ _) (Nat.le_refl _) _) (by simp) _
  clear hW2
  have HR2 := Lib.hid R2
  have HT2 := Lib.hid T2
  have HT1 := Lib.hid T1
  clear R2 T2 T1
  go_loopw [6] (fun v wr => ∃ n : Nat, low ≤ n ∧ n ≤ high + 1 ∧ v = .int .i64 n ∧ Hid (wr.rangeAt (w.heap.size + 1) 0 (setL false (fun i => decide (low ≤ i) && decide (i < n) && b.testBit i))) ∧ Hid (wr.there (w.heap.size + 1) 0 64) ∧ Hid (wr.there w.heap.size 0 64) ∧ Below w.heap.size w wr) (fun v _ => high + 1 - (intOf v).toNat)
  case atStart => exact ⟨low, Nat.le_refl _, by omega, rfl, HR2, HT2, HT1, bk⟩
  case round =>
    obtain ⟨n, hn1, hn2, rfl, hR, hT2, hT1, hbr⟩ := hrel
    go_wp2_with fail
    refine (HH.out _).mono ?_
    rintro e w' ⟨rfl, rfl⟩
    by_cases hlt : n ≤ high
    · have c1 : wr.cell? ⟨w.heap.size + 1, 1 + n, none⟩ = some (.bool (decide (low ≤ n) && decide (n < n) && b.testBit n)) := setL_cell hR.out n (by omega)
      have f1 : wr.frozen? ⟨w.heap.size + 1, 1 + n, none⟩ = false := by
        have := (hT2.out (1 + n) (by omega)).2
        rw [show 0 + (1 + n) = 1 + n by omega] at this
        exact this
      have hv := shrBit b n hb
      obtain ⟨v, Hv⟩ : ∃ v, Hid (b.testBit n = v) := ⟨_, rfl⟩
      rw [Hv.out] at hv
      have hR2 := Lib.hid (setL_set (f2 := fun i => decide (low ≤ i) && decide (i < n + 1) && b.testBit i) hR.out n (by omega) v (fun i => by
        by_cases h1 : i = n
        · subst h1; simp [hn1, Hv.out]
        · by_cases h2 : i < n
          · simp [h1, h2, show i < n + 1 by omega]
          · simp [h1, h2, show ¬ i < n + 1 by omega]))
      have hT3 : Hid ((wr.setCell ⟨w.heap.size + 1, 1 + n, none⟩ (.bool v)).there (w.heap.size + 1) 0 64) := there_set hT2.out
      have hT4 : Hid ((wr.setCell ⟨w.heap.size + 1, 1 + n, none⟩ (.bool v)).there w.heap.size 0 64) := there_set hT1.out
      have hb2 : Below w.heap.size w (wr.setCell ⟨w.heap.size + 1, 1 + n, none⟩ (.bool v)) := Below.setCell hbr (by show w.heap.size ≤ w.heap.size + 1; omega) _
      go_wp2_with fail
      go_roundw
      case rel => exact ⟨n + 1, by omega, by omega, by go_num, hR2, hT3, hT4, hb2⟩
      case measure => simp [intOf]; omega
    · have e : n = high + 1 := by omega
      subst e
      rw [show (fun i => decide (low ≤ i) && decide (i < high + 1) && b.testBit i) = F from funext fun i => (hF.out i).symm] at hR
      have hv := starNe b hb
      rw [Hs.out] at hv
      have c0 : wr.cell? ⟨w.heap.size + 1, 0, none⟩ = some (.bool false) := hR.out 0 _ rfl
      have f0 : wr.frozen? ⟨w.heap.size + 1, 0, none⟩ = false := (hT2.out 0 (by omega)).2
      have HR3 : Hid ((wr.setCell ⟨w.heap.size + 1, 0, none⟩ (.bool st)).rangeAt (w.heap.size + 1) 0 (setL st F)) := setL_star hR.out
      have HT4 : Hid ((wr.setCell ⟨w.heap.size + 1, 0, none⟩ (.bool st)).there w.heap.size 0 64) := there_set hT1.out
      have hb2 : Below w.heap.size w (wr.setCell ⟨w.heap.size + 1, 0, none⟩ (.bool st)) := Below.setCell hbr (by show w.heap.size ≤ w.heap.size + 1; omega) _
      go_wp2_with (first | (refine wpList_load_mid rfl 44 (.tmp 5) rfl (w.heap.size + 1) 0 (by simp [Act.eval]) (setL st F) _ HR3.out Try.underlying44 rfl (infoCS.trans (by rw [setL_len])) ?_) | (refine wpList_store_mid rfl 44 (.tmp 4) (.tmp 27) rfl w.heap.size 0 (setL st F).toArray rfl rfl (by simpa [setL_len] using HT4.out) (infoCS.trans (by simp [setL_len])) (setL_one st F) ?_))
      have hfin : (((wr.setCell ⟨w.heap.size + 1, 0, none⟩ (.bool st)).setCells w.heap.size 0 (setL st F).toArray.toList)).rangeAt w.heap.size 0 (setL st F) := by
        have := World.rangeAt_setCells_same (wr.setCell ⟨w.heap.size + 1, 0, none⟩ (.bool st)) w.heap.size 0 (setL st F) (by rw [setL_len]; exact HT4.out)
        simpa using this
      have hbel : Below w.heap.size w ((wr.setCell ⟨w.heap.size + 1, 0, none⟩ (.bool st)).setCells w.heap.size 0 (setL st F).toArray.toList) := below_setCells (Nat.le_refl _) _ _ _ hb2
      refine bodyPost_ret (v := .agg (setL st F).toArray) ?_ rfl ⟨rfl, hbel⟩
      have e9 : (setL st F).toArray.toList = setL st F := by simp
      rw [e9] at hfin
      generalize (wr.setCell ⟨w.heap.size + 1, 0, none⟩ (.bool st)).setCells w.heap.size 0 (setL st F) = W9 at hfin ⊢
      have hlv := run_loadVar_mid (P := Try.prog) W9 w.heap.size 0 44 (setL st F) _ hfin Try.underlying44 rfl (infoCS.trans (by rw [setL_len]))
      clear hR hT1 hT2 HT4 HR3 hfin hbel e9 c0 f0 hv
      generalize (setL st F).toArray = V9 at hlv ⊢
      simp [results, Try.results43, Act.put, Sem.run_bind, asAddr, hlv]

end Go.Proofs.Ytpgclepiagfgfaa
