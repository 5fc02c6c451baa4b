/- spec.CronField. -/
import Derived.Test.YtkhggefbkhdimaaGreatDoorFdM
namespace Go.Proofs.YtkhggefbkhdimaaGreatDoor
open Go.RowKit
set_option linter.unusedVariables false
set_option linter.unusedSimpArgs false

theorem fieldV_snoc (S : List UInt8 → Nat × Item) (p : List UInt8) : ∀ (l : List (List UInt8)) (v : Nat), fieldV S (l ++ [p]) v = if p = [] then worseN (fieldV S l v) 2 else worseN (fieldV S l v) (S p).1
  | [], v => rfl
  | q :: l, v => by
    rw [List.cons_append]
    unfold fieldV
    rw [fieldV_snoc S p l]
theorem fieldV_le (S : List UInt8 → Nat × Item) (hS : ∀ p, (S p).1 ≤ 2) : ∀ (l : List (List UInt8)) (v : Nat), v ≤ 2 → fieldV S l v ≤ 2
  | [], v, h => h
  | q :: l, v, h => by
    unfold fieldV
    refine fieldV_le S hS l _ ?_
    split
    · exact worse_le h (Nat.le_refl 2)
    · exact worse_le h (hS q)
theorem memF_snoc (S : List UInt8 → Nat × Item) (l : List (List UInt8)) (p : List UInt8) (hp : p ≠ []) (i : Nat) : (memF S l i || itemF (S p) i) = memF S (l ++ [p]) i := by
  unfold memF itemF
  rw [List.any_append]
  cases p with
  | nil => exact absurd rfl hp
  | cons a b => simp
theorem memS_snoc (S : List UInt8 → Nat × Item) (l : List (List UInt8)) (p : List UInt8) (hp : p ≠ []) : (memS S l || itemB (S p)) = memS S (l ++ [p]) := by
  unfold memS itemB
  rw [List.any_append]
  cases p with
  | nil => exact absurd rfl hp
  | cons a b => simp
theorem mem_nil (S : List UInt8 → Nat × Item) (l : List (List UInt8)) : memF S (l ++ [[]]) = memF S l ∧ memS S (l ++ [[]]) = memS S l := by
  unfold memF memS
  exact ⟨by funext i; rw [List.any_append]; simp, by rw [List.any_append]; simp⟩
theorem take_snoc' {α : Type} (l : List α) (j : Nat) (hj : j < l.length) : l.take (j + 1) = l.take j ++ [l[j]] := by rw [List.take_add_one, List.getElem?_eq_getElem hj, Option.toList_some]
theorem grownBy_setCells {a : World} {b : Nat} : ∀ (vs : List Value) (o : Nat) (w : World), a.grownBy w (some b) → a.grownBy (w.setCells b o vs) (some b)
  | [], _, _, h => h
  | v :: r, o, w, h => by
    unfold World.setCells
    exact grownBy_setCells r (o + 1) _ (Lib.grownBy_setB h o v)
theorem worse_two (a : Nat) (ha : a ≤ 2) (w : World) : Calls Tryz.prog 84 #[.int .i64 a, .int .i64 2] w fun e w' => e = .returned (.int .i64 (worseN a 2 : Nat)) ∧ w = w' := worse_any a 2 ha (Nat.le_refl 2) w
theorem store_stop {P : Program} {ops : Array Oper} {rest : List Oper} {op : Oper} {a : Act} {w : World} {Q : Exit → Act → World → Prop} (hgd : op.guard = none) (ty : TypeId) (x y : Operand) (ho : op.op = .store ty x y)
    (b o : Nat) (arr : Array Value) (hx : a.eval x = .pointer (some ⟨b, o, none⟩)) (hy : a.eval y = .agg arr) (hi : (P.info? ty).map (·.size) = some arr.size) (hall : arr.all (·.oneCell') = true)
    (h : Stop (w.there b o arr.size ∧ (w.there b o arr.size → wpList P ops Q rest (a.put op.dst undef) (w.setCells b o arr.toList)))) : wpList P ops Q (op :: rest) a w :=
  wpList_store_mid hgd ty x y ho b o arr hx hy h.1 hi hall (h.2 h.1)
def ItemIs (lo hi k : Nat) (p : List UInt8) (st : Bool) (f : Nat → Bool) (u : Nat) : Prop := ∀ W : World, Calls Tryz.prog 148 #[.agg #[.int .i64 lo, .int .i64 hi, .int .i64 k], .string (mkB p)] W (SetV st f u W)
theorem itemK_le (k : Nat) (p : List UInt8) : (itemK k p).1 ≤ 2 := itemS_le _ _ _ _ (valS_v k) p
def fieldN (k : Nat) (l : List UInt8) : Nat := fieldV (itemK k) (cutL 44 l) 1
def fieldF (k : Nat) (l : List UInt8) : Nat → Bool := fun i => decide (fieldN k l = 1) && memF (itemK k) (cutL 44 l) i
def fieldT (k : Nat) (l : List UInt8) : Bool := decide (fieldN k l = 1) && memS (itemK k) (cutL 44 l)

set_option maxRecDepth 100000 in
set_option maxHeartbeats 8000000 in
theorem cronField_any (k : Nat) (hk : k < 6) (l : List UInt8) (hl : l.length ≤ 2147483654) (w : World) :
    Calls Tryz.prog 133 #[.agg #[.int .i64 (loK k : Nat), .int .i64 (hiK k : Nat), .int .i64 k], .string (mkB l)] w (SetV (fieldT k l) (fieldF k l) (fieldN k l) w) := by
  have hs : (mkB l).size ≤ 2147483654 := by rw [mkB_size]; exact hl
  have HITEM : Hid (∀ p ∈ cutL 44 l, ItemIs (loK k) (hiK k) k p (itemB (itemK k p)) (itemF (itemK k p)) (itemK k p).1) := Lib.hid (fun p hp W => item_any k hk p (by have := cutL_mem_len 44 l p hp; omega) W)
  have HB : Hid (cutB 44 (mkB l) = (cutL 44 l).map mkB) := Lib.hid (by rw [cutB_mk, mkB_data])
  have HF1 : Hid (fieldN k l = fieldV (itemK k) (cutL 44 l) 1) := Lib.hid rfl
  have HF2 : Hid (∀ i, fieldF k l i = (decide (fieldN k l = 1) && memF (itemK k) (cutL 44 l) i)) := Lib.hid (fun _ => rfl)
  have HF3 : Hid (fieldT k l = (decide (fieldN k l = 1) && memS (itemK k) (cutL 44 l))) := Lib.hid rfl
  have HSL : Hid (∀ p, (itemK k p).1 ≤ 2) := Lib.hid (itemK_le k)
  have HNE : Hid (0 < (cutL 44 l).length) := Lib.hid (by cases h : cutL 44 l with | nil => exact absurd h (cutL_ne _ _) | cons a b => simp)
  have HNL : Hid ((cutL 44 l).length ≤ 2147483655) := Lib.hid (by have := cutB_len 44 (mkB l); rw [cutB_mk, mkB_data, List.length_map, mkB_size] at this; omega)
  generalize fieldN k l = V9 at HF1 HF2 HF3 ⊢
  generalize fieldF k l = F9 at HF2 ⊢
  generalize fieldT k l = T9 at HF3 ⊢
  generalize cutL 44 l = ps at HITEM HB HF1 HF2 HF3 HNE HNL
  generalize itemK k = S at HITEM HF1 HF2 HF3 HSL
  generalize loK k = lo at *
  generalize hiK k = hi at *
  go_enter Tryz.func133, Tryz.ntmps133
  go_wp2_with fail
  have hz1 : (w.alloc (.cells #[.int .i64 lo, .int .i64 hi, .int .i64 k] 209)).heap.size = w.heap.size + 1 := by simp
  have hz2 : ((w.alloc (.cells #[.int .i64 lo, .int .i64 hi, .int .i64 k] 209)).alloc (.cells (setL false noneB).toArray 28)).heap.size = w.heap.size + 2 := by simp
  have hz3 : (((w.alloc (.cells #[.int .i64 lo, .int .i64 hi, .int .i64 k] 209)).alloc (.cells (setL false noneB).toArray 28)).alloc (.cells (setL false noneB).toArray 28)).heap.size = w.heap.size + 3 := by simp
  have b12 : Below (w.heap.size + 1) (w.alloc (.cells #[.int .i64 lo, .int .i64 hi, .int .i64 k] 209)) ((w.alloc (.cells #[.int .i64 lo, .int .i64 hi, .int .i64 k] 209)).alloc (.cells (setL false noneB).toArray 28)) := Below.alloc (Below.refl _ _) (by omega) _
  have b23 : Below (w.heap.size + 2) ((w.alloc (.cells #[.int .i64 lo, .int .i64 hi, .int .i64 k] 209)).alloc (.cells (setL false noneB).toArray 28)) (((w.alloc (.cells #[.int .i64 lo, .int .i64 hi, .int .i64 k] 209)).alloc (.cells (setL false noneB).toArray 28)).alloc (.cells (setL false noneB).toArray 28)) := Below.alloc (Below.refl _ _) (by omega) _
  have ea : (((w.alloc (.cells #[.int .i64 lo, .int .i64 hi, .int .i64 k] 209)).alloc (.cells (setL false noneB).toArray 28)).alloc (.cells (setL false noneB).toArray 28)).heap[w.heap.size]? = some (.cells #[.int .i64 lo, .int .i64 hi, .int .i64 k] 209) := (b23.block _ (by omega)).trans ((b12.block _ (by omega)).trans (heap_alloc_new w _))
  have ez : (((w.alloc (.cells #[.int .i64 lo, .int .i64 hi, .int .i64 k] 209)).alloc (.cells (setL false noneB).toArray 28)).alloc (.cells (setL false noneB).toArray 28)).heap[w.heap.size + 1]? = some (.cells (setL false noneB).toArray 28) := by
    have := heap_alloc_new (w.alloc (.cells #[.int .i64 lo, .int .i64 hi, .int .i64 k] 209)) (.cells (setL false noneB).toArray 28)
    rw [hz1] at this
    exact (b23.block _ (by omega)).trans this
  have es : (((w.alloc (.cells #[.int .i64 lo, .int .i64 hi, .int .i64 k] 209)).alloc (.cells (setL false noneB).toArray 28)).alloc (.cells (setL false noneB).toArray 28)).heap[w.heap.size + 2]? = some (.cells (setL false noneB).toArray 28) := by
    have := heap_alloc_new ((w.alloc (.cells #[.int .i64 lo, .int .i64 hi, .int .i64 k] 209)).alloc (.cells (setL false noneB).toArray 28)) (.cells (setL false noneB).toArray 28)
    rw [hz2] at this
    exact this
  have hw0 : Below w.heap.size w (((w.alloc (.cells #[.int .i64 lo, .int .i64 hi, .int .i64 k] 209)).alloc (.cells (setL false noneB).toArray 28)).alloc (.cells (setL false noneB).toArray 28)) := (by repeat (first | (with_reducible assumption) | (with_reducible exact Below.refl _ _) | (with_reducible refine below_drewN ?_ _) | (with_reducible refine Below.drew ?_) | (with_reducible refine Below.alloc ?_ (by first | omega | (simp <;> omega)) _)))
  refine (pieces_any (mkB l) 44 hs _).mono ?_
  rintro e w1 ⟨v1, rfl, hown1, hb1⟩
  change Below (((w.alloc (.cells #[.int .i64 lo, .int .i64 hi, .int .i64 k] 209)).alloc (.cells (setL false noneB).toArray 28)).alloc (.cells (setL false noneB).toArray 28)).heap.size (((w.alloc (.cells #[.int .i64 lo, .int .i64 hi, .int .i64 k] 209)).alloc (.cells (setL false noneB).toArray 28)).alloc (.cells (setL false noneB).toArray 28)) w1 at hb1
  change w1.ownsRow (((w.alloc (.cells #[.int .i64 lo, .int .i64 hi, .int .i64 k] 209)).alloc (.cells (setL false noneB).toArray 28)).alloc (.cells (setL false noneB).toArray 28)).heap.size _ _ _ _ _ at hown1
  generalize (((w.alloc (.cells #[.int .i64 lo, .int .i64 hi, .int .i64 k] 209)).alloc (.cells (setL false noneB).toArray 28)).alloc (.cells (setL false noneB).toArray 28)) = wa at hb1 hown1 ea ez es hw0 hz3
  clear hz1 hz2 b12 b23
  have d0 : w1.cell? ⟨w.heap.size, 0, none⟩ = some (.int .i64 lo) := cellB hb1 (cell_of_row _ _ 0 _ _ (0, 0) ea)
  have d1 : w1.cell? ⟨w.heap.size, 1, none⟩ = some (.int .i64 hi) := cellB hb1 (cell_of_row _ _ 1 _ _ (0, 0) ea)
  have d2 : w1.cell? ⟨w.heap.size, 2, none⟩ = some (.int .i64 k) := cellB hb1 (cell_of_row _ _ 2 _ _ (0, 0) ea)
  have HTr : Hid (w1.there (w.heap.size + 1) 0 64) := Lib.hid (there_below (fun j hj => by
    constructor
    · rw [cell_of_row _ _ _ _ _ (0, 0) ez]; simp [setL_len]; omega
    · unfold World.frozen?; rw [ez]; simp) hb1)
  have HRs : Hid (w1.rangeAt (w.heap.size + 2) 0 (setL (memS S (ps.take 0)) (memF S (ps.take 0)))) := Lib.hid (by
    change w1.rangeAt (w.heap.size + 2) 0 (setL false noneB)
    exact rangeAt_below (fun j v hv => by rw [show 0 + j = j by omega, cell_of_row _ _ j _ _ (0, 0) es]; simpa using hv) hb1)
  have HTs : Hid (w1.there (w.heap.size + 2) 0 64) := Lib.hid (there_below (fun j hj => by
    constructor
    · rw [cell_of_row _ _ _ _ _ (0, 0) es]; simp [setL_len]; omega
    · unfold World.frozen?; rw [es]; simp) hb1)
  have B0 : Hid (Below w.heap.size w w1) := Lib.hid (hw0.trans (hb1.mono hw0.size))
  have hz1 : w.heap.size + 3 ≤ w1.heap.size := by have := hb1.size; omega
  rw [show ((44 : UInt8).toNat : Int) = 44 from rfl, HB.out] at hown1
  have hlo := fun k hk => (hown1.lt k hk).1
  obtain ⟨g1, cap1, rfl, hc1, hm1, hcell1⟩ := own_open hown1 (by intro h; have := HNE.out; rw [List.map_eq_nil_iff] at h; rw [h] at this; simp at this)
  have hg1 : w.heap.size + 3 ≤ g1 := by have := hlo g1 rfl; omega
  clear hlo hb1 hw0 ea ez es hz3 hown1
  obtain ⟨n, hn⟩ : ∃ n, n = ps.length := ⟨_, rfl⟩
  have hn9 : (ps.map mkB).length = n := by rw [List.length_map, hn]
  rw [hn9] at hc1 hcell1 ⊢
  have HY : Hid (∀ j, (h : j < ps.length) → w1.cell? ⟨g1, j, none⟩ = some (.string (mkB ps[j]))) := Lib.hid (fun j h => by
    have := hcell1 j (by omega)
    rw [this]
    simp [List.getD, h])
  have HN := Lib.hid hn
  have hn0 : n ≤ 2147483655 := by rw [hn]; exact HNL.out
  clear hcell1 hn9 hn
  unfold maxLen at hm1
  go_wp2_with fail
  go_loopw [7, 15] (fun v7 i wr => ∃ (j v : Nat), j ≤ n ∧ i = .int .i64 j ∧ v7 = .int .i64 v ∧ v ≤ 2 ∧ Hid (v = fieldV S (ps.take j) 1) ∧ Hid (wr.rangeAt (w.heap.size + 2) 0 (setL (memS S (ps.take j)) (memF S (ps.take j)))) ∧ Hid (wr.there (w.heap.size + 2) 0 64) ∧ Hid (w1.grownBy wr (some (w.heap.size + 2)))) (fun _ i _ => n - (intOf i).toNat)
  case atStart => exact ⟨0, 1, by omega, rfl, rfl, by omega, Lib.hid rfl, HRs, HTs, Lib.hid (World.grownBy.refl _ _)⟩
  case round =>
    obtain ⟨j, v, hj, rfl, rfl, hv2, hV, hR, hT, hG⟩ := hrel
    have hd0 : wr.cell? ⟨w.heap.size, 0, none⟩ = some (.int .i64 lo) := hG.out.cell d0 (by simp)
    have hd1 : wr.cell? ⟨w.heap.size, 1, none⟩ = some (.int .i64 hi) := hG.out.cell d1 (by simp)
    have hd2 : wr.cell? ⟨w.heap.size, 2, none⟩ = some (.int .i64 k) := hG.out.cell d2 (by simp)
    have HSZ : Hid (w1.heap.size ≤ wr.heap.size) := Lib.hid hG.out.size
    by_cases hlt : j < n
    · have hlp : j < ps.length := by rw [← HN.out]; exact hlt
      have hy : wr.cell? ⟨g1, j, none⟩ = some (.string (mkB ps[j])) := hG.out.cell (HY.out j hlp) (by intro h; injection h with h; have h : g1 = w.heap.size + 2 := h; omega)
      have HT1 := Lib.hid (take_snoc' ps j hlp)
      have HI := Lib.hid (HITEM.out ps[j] (List.getElem_mem hlp))
      have hiu := HSL.out ps[j]
      by_cases hp : ps[j] = []
      · have q : (mkB ps[j]).toList.isEmpty = true := by rw [mkB_list, hp]; rfl
        have HV2 : Hid (worseN v 2 = fieldV S (ps.take (j + 1)) 1) := Lib.hid (by rw [HT1.out, fieldV_snoc, if_pos hp, hV.out])
        have HR2 : Hid (wr.rangeAt (w.heap.size + 2) 0 (setL (memS S (ps.take (j + 1))) (memF S (ps.take (j + 1))))) := Lib.hid (by
          rw [HT1.out, hp, (mem_nil S _).1, (mem_nil S _).2]
          exact hR.out)
        have hle := worse_le hv2 (Nat.le_refl 2)
        clear hp hiu
        go_wp2_with (first | (go_at_call 84; refine (worse_two v hv2 _).mono ?_; rintro e w9 ⟨rfl, rfl⟩))
        go_roundw
        case rel => exact ⟨j + 1, worseN v 2, by omega, by go_num, rfl, hle, HV2, HR2, hT, hG⟩
        case measure => simp [intOf]; omega
      · have q : (mkB ps[j]).toList.isEmpty = false := by rw [mkB_list]; simpa using hp
        have HV2 : Hid (worseN v (S ps[j]).1 = fieldV S (ps.take (j + 1)) 1) := Lib.hid (by rw [HT1.out, fieldV_snoc, if_neg hp, hV.out])
        have HM1 : Hid (∀ i, (memF S (ps.take j) i || itemF (S ps[j]) i) = memF S (ps.take (j + 1)) i) := Lib.hid (fun i => by rw [HT1.out]; exact memF_snoc S _ _ hp i)
        have HM2 : Hid (memS S (ps.take (j + 1)) = (memS S (ps.take j) || itemB (S ps[j]))) := Lib.hid (by rw [HT1.out]; exact (memS_snoc S _ _ hp).symm)
        have hle := worse_le hv2 hiu
        generalize itemB (S ps[j]) = st at HI HM2
        generalize itemF (S ps[j]) = f at HI HM1
        generalize (S ps[j]).1 = u at HI HV2 hiu hle
        generalize ps[j] = p at HI hy q
        generalize hcs2 : memS S (ps.take (j + 1)) = cs2 at HM2 ⊢
        have HCS := Lib.hid hcs2
        generalize hcf2 : memF S (ps.take (j + 1)) = cf2 at HM1 ⊢
        generalize memS S (ps.take j) = cs at HM2 hR
        generalize memF S (ps.take j) = cf at HM1 hR
        have HCF := Lib.hid hcf2
        clear hp HT1 hcf2 hcs2
        go_wp2_with fail
        refine (HI.out _).mono ?_
        rintro e wA ⟨rfl, hbA⟩
        have HBA := Lib.hid hbA
        have HTh : Hid ((wA.alloc (.cells (setL false noneB).toArray 28)).there wA.heap.size 0 64) := Lib.hid (there_new _ _ _ _ _ rfl (by simp [setL_len]))
        clear hbA
        go_wp2_with (first | (refine store_stop rfl 28 (.tmp 10) (.tmp 27) rfl wA.heap.size 0 (setL st f).toArray rfl rfl (infoCS.trans (by simp [setL_len])) (setL_one st f) (stop_here ?_)))
        unfold Stop
        refine ⟨?_, fun hTX => ?_⟩
        · (try rw [setL_len])
          exact there_new _ _ _ _ _ rfl rfl
        obtain ⟨NA, hNA⟩ : ∃ NA, NA = wA.heap.size := ⟨_, rfl⟩
        generalize hX : World.setCells _ _ _ _ = X
        have HR10 : Hid (X.rangeAt NA 0 (setL st f)) := Lib.hid (by
          rw [← hX, hNA]
          refine World.rangeAt_setCells_same _ _ _ _ ?_
          rw [setL_len]
          exact there_new _ _ _ _ _ rfl rfl)
        have bX : Below wA.heap.size wA X := by rw [← hX]; exact below_setCells (Nat.le_refl _) _ _ _ (Below.alloc (Below.refl _ _) (Nat.le_refl _) _)
        clear hTX
        rw [← hNA]
        clear hX
        have HRS : Hid (X.rangeAt (w.heap.size + 2) 0 (setL cs cf)) := Lib.hid (rangeAt_below (rangeAt_below hR.out HBA.out) bX)
        have HTS : Hid (X.there (w.heap.size + 2) 0 64) := Lib.hid (there_below (there_below hT.out HBA.out) bX)
        have HG1 : Hid (w1.grownBy X (some (w.heap.size + 2))) := Lib.hid (Lib.grownBy_below (Lib.grownBy_below hG.out HBA.out) bX)
        clear bX hNA
        go_wp2_with (first | (refine wpList_load_mid rfl 28 (.tmp 6) rfl (w.heap.size + 2) 0 rfl (setL cs cf) _ HRS.out Tryz.underlying28 rfl (infoCS.trans (by rw [setL_len])) ?_) | (refine wpList_load_mid rfl 28 (.tmp 10) rfl NA 0 rfl (setL st f) _ HR10.out Tryz.underlying28 rfl (infoCS.trans (by rw [setL_len])) ?_))
        refine (union_any cs st cf f _ _ (Lib.hid rfl) (Lib.hid rfl) cs2 cf2 HM2 (Lib.hid (fun i _ => HM1.out i)) _).mono ?_
        rintro e wB ⟨rfl, hbB⟩
        have HT2 : Hid (wB.there (w.heap.size + 2) 0 64) := Lib.hid (there_below HTS.out hbB)
        have HG2 : Hid (w1.grownBy wB (some (w.heap.size + 2))) := Lib.hid (Lib.grownBy_below HG1.out hbB)
        clear hbB
        go_wp2_with (first | (go_at_call 84; refine (worse_any v u hv2 hiu _).mono ?_; rintro e w9 ⟨rfl, rfl⟩) | (refine store_stop rfl 28 (.tmp 6) (.tmp 31) rfl (w.heap.size + 2) 0 (setL cs2 cf2).toArray rfl rfl (infoCS.trans (by simp [setL_len])) (setL_one cs2 cf2) (stop_here ?_)))
        unfold Stop
        refine ⟨?_, fun hTX => ?_⟩
        · (try rw [setL_len])
          simpa [setL_len] using HT2.out
        generalize hY : World.setCells _ _ _ _ = Y
        clear hTX
        have HR3 : Hid (Y.rangeAt (w.heap.size + 2) 0 (setL (memS S (ps.take (j + 1))) (memF S (ps.take (j + 1))))) := Lib.hid (by
          rw [← hY, HCF.out, HCS.out]
          refine World.rangeAt_setCells_same _ _ _ _ ?_
          rw [setL_len]
          exact HT2.out)
        have HT3 : Hid (Y.there (w.heap.size + 2) 0 64) := Lib.hid (by rw [← hY]; exact World.there_setCells HT2.out _ _ _)
        have HG3 : Hid (w1.grownBy Y (some (w.heap.size + 2))) := Lib.hid (by rw [← hY]; exact grownBy_setCells _ _ _ HG2.out)
        clear hY
        go_wp2_with fail
        go_roundw
        case rel => exact ⟨j + 1, worseN v u, by omega, by go_num, rfl, hle, HV2, HR3, HT3, HG3⟩
        case measure => simp [intOf]; omega
    · have e : j = n := by omega
      have HTK : Hid (ps.take j = ps) := Lib.hid (by rw [List.take_of_length_le]; rw [← HN.out]; omega)
      have HVV : Hid (v = V9) := Lib.hid (by rw [hV.out, HTK.out, HF1.out])
      have HR1 : Hid (wr.rangeAt (w.heap.size + 2) 0 (setL (memS S ps) (memF S ps))) := Lib.hid (by have := hR.out; rw [HTK.out] at this; exact this)
      have HT4 : Hid (wr.there (w.heap.size + 1) 0 64) := Lib.hid (fun q hq => by
        obtain ⟨h1, h2⟩ := HTr.out q hq
        obtain ⟨z, hz⟩ := Option.isSome_iff_exists.1 h1
        have hl9 := World.block_lt_of_cell? w1 _ hz
        exact ⟨by rw [hG.out.cell hz (by simp)]; rfl, by rw [hG.out.frozen_far _ hl9 (by simp)]; exact h2⟩)
      have HBr : Hid (Below w.heap.size w wr) := Lib.hid (Below.grown B0.out hG.out (by omega) (fun k hk => by cases hk; omega))
      clear hR
      by_cases h1 : v = 1
      · have HV1 : Hid (V9 = 1) := Lib.hid (by rw [← HVV.out]; exact h1)
        have HS1 : Hid (memS S ps = T9) := Lib.hid (by rw [HF3.out, HV1.out]; simp)
        have HS2 : Hid (memF S ps = F9) := Lib.hid (by funext i; rw [HF2.out, HV1.out]; simp)
        rw [HS1.out, HS2.out] at HR1
        subst h1
        go_wp2_with (first | (refine wpList_load_mid rfl 28 (.tmp 6) rfl (w.heap.size + 2) 0 rfl (setL T9 F9) _ HR1.out Tryz.underlying28 rfl (infoCS.trans (by rw [setL_len])) ?_) | (refine wpList_store_mid rfl 28 (.tmp 4) (.tmp 40) rfl (w.heap.size + 1) 0 (setL T9 F9).toArray rfl rfl (by simpa [setL_len] using HT4.out) (infoCS.trans (by simp [setL_len])) (setL_one T9 F9) ?_))
        have hfin : (wr.setCells (w.heap.size + 1) 0 (setL T9 F9).toArray.toList).rangeAt (w.heap.size + 1) 0 (setL T9 F9) := by
          have := World.rangeAt_setCells_same wr (w.heap.size + 1) 0 (setL T9 F9) (by rw [setL_len]; exact HT4.out)
          simpa using this
        have hbel : Below w.heap.size w (wr.setCells (w.heap.size + 1) 0 (setL T9 F9).toArray.toList) := below_setCells (by omega) _ _ _ HBr.out
        refine bodyPost_ret (v := .tuple #[.agg (setL T9 F9).toArray, .int .i64 1]) ?_ rfl ⟨by rw [HV1.out]; rfl, hbel⟩
        have e9 : (setL T9 F9).toArray.toList = setL T9 F9 := by simp
        rw [e9] at hfin
        generalize wr.setCells (w.heap.size + 1) 0 _ = W9 at hfin ⊢
        have hlv := run_loadVar_mid (P := Tryz.prog) W9 (w.heap.size + 1) 0 28 (setL T9 F9) _ hfin Tryz.underlying28 rfl (infoCS.trans (by rw [setL_len]))
        clear hfin hbel e9 hd0 hd1 hd2
        generalize (setL T9 F9).toArray = A9 at hlv ⊢
        simp [results, Tryz.results133, Act.put, Sem.run_bind, asAddr, hlv]
      · have hne : V9 ≠ 1 := by rw [← HVV.out]; exact h1
        have HS1 : Hid (T9 = false) := Lib.hid (by rw [HF3.out]; simp [hne])
        have HS2 : Hid (F9 = noneB) := Lib.hid (by funext i; rw [HF2.out]; simp [hne, noneB])
        have q1 : ((v : Int) != 1) = true := by simp only [bne_iff_ne]; omega
        clear h1 hne HR1
        go_wp2_with (first | (refine wpList_store_mid rfl 28 (.tmp 4) (.tmp 38) rfl (w.heap.size + 1) 0 (setL false noneB).toArray rfl rfl (by simpa [setL_len] using HT4.out) (infoCS.trans (by simp [setL_len])) (setL_one false noneB) ?_))
        have hfin : (wr.setCells (w.heap.size + 1) 0 (setL false noneB).toArray.toList).rangeAt (w.heap.size + 1) 0 (setL false noneB) := by
          have := World.rangeAt_setCells_same wr (w.heap.size + 1) 0 (setL false noneB) (by rw [setL_len]; exact HT4.out)
          simpa using this
        have hbel : Below w.heap.size w (wr.setCells (w.heap.size + 1) 0 (setL false noneB).toArray.toList) := below_setCells (by omega) _ _ _ HBr.out
        refine bodyPost_ret (v := .tuple #[.agg (setL false noneB).toArray, .int .i64 v]) ?_ rfl ⟨by rw [HS1.out, HS2.out, HVV.out], hbel⟩
        have e9 : (setL false noneB).toArray.toList = setL false noneB := by simp
        rw [e9] at hfin
        generalize wr.setCells (w.heap.size + 1) 0 _ = W9 at hfin ⊢
        have hlv := run_loadVar_mid (P := Tryz.prog) W9 (w.heap.size + 1) 0 28 (setL false noneB) _ hfin Tryz.underlying28 rfl (infoCS.trans (by rw [setL_len]))
        clear hfin hbel e9 hd0 hd1 hd2
        generalize (setL false noneB).toArray = A9 at hlv ⊢
        simp [results, Tryz.results133, Act.put, Sem.run_bind, asAddr, hlv]
end Go.Proofs.YtkhggefbkhdimaaGreatDoor
