/- cron.getRange and getField of any text, impl.CronField. -/
import Derived.Test.YtkhggefbkhdimaaGreatDoorFdQ
import Derived.Test.YtkhggefbkhdimaaGreatDoorGPa
namespace Go.Proofs.YtkhggefbkhdimaaGreatDoor
open Go.RowKit Go.Shelf
set_option linter.unusedVariables false
set_option linter.unusedSimpArgs false

def headO (f : List UInt8 → Option Nat) : List (List UInt8) → Option Nat
  | e :: _ => f e
  | [] => none
def valB (k : Nat) : List UInt8 → Option Nat := fun t => valU k (mkB t)
def itemJ (k : Nat) (l : List UInt8) : Option Item := itemI (loK k) (hiK k) (valB k) l
theorem mustI_le (l : List UInt8) (v : Nat) (h : mustI l = some v) : v ≤ 9223372036854775807 := by
  unfold mustI at h
  cases hp : Lib.atoiAll l with
  | ok z =>
    have hb := Lib.atoiAll_bounds hp
    rw [hp] at h
    dsimp only at h
    split at h
    · cases h
    · have := Option.some.inj h
      omega
  | _ => rw [hp] at h; cases h
/-- cron.getRange. -/
theorem range_any (k : Nat) (hk : k < 6) (l : List UInt8) (hl : l.length ≤ 2147483654) (M : Option Nat) (w : World) (hM : Hid (NamesAt k M w)) (he : Hid (Errs w)) :
    Calls Tryz.prog 105 #[.string (mkB l), .agg #[.int .u64 (loK k : Nat), .int .u64 (hiK k : Nat), .map M]] w (RngR (itemJ k l) w) := by
  have hs : (mkB l).size ≤ 2147483654 := by rw [mkB_size]; exact hl
  have hB : cutB 47 (mkB l) = (cutL 47 l).map mkB := by rw [cutB_mk, mkB_data]
  have hm := cutL_mem_len 47 l
  cases hc : cutL 47 l with
  | nil => exact absurd hc (cutL_ne _ _)
  | cons p0 ps =>
    rw [hc] at hB hm
    have h0 : p0.length ≤ 2147483654 := by have := hm p0 (by simp); omega
    have hQ : cutB 45 (mkB p0) = (cutL 45 p0).map mkB := by rw [cutB_mk, mkB_data]
    have hm2 := cutL_mem_len 45 p0
    cases hc2 : cutL 45 p0 with
    | nil => exact absurd hc2 (cutL_ne _ _)
    | cons e0 es =>
      rw [hc2] at hQ hm2
      have hU : ∀ t : List UInt8, t.length ≤ 2147483654 → UIs k M (mkB t) (valU k (mkB t)) := fun t ht W hM hE => intOrName_any k (mkB t) (by rw [mkB_size]; exact ht) M W hM hE
      have hIE : endsI (loK k) (hiK k) (valB k) p0 = endsP (loK k) (hiK k) (((mkB e0).toList == [42]) || ((mkB e0).toList == [63])) (es.map mkB) (valU k (mkB e0)) (headO (valB k) es) := by
        unfold endsI endsP valB
        rw [hc2]
        dsimp only
        rw [mkB_list]
        by_cases h1 : e0 = [42] ∨ e0 = [63]
        · rw [if_pos h1, if_pos (by rcases h1 with h | h <;> simp [h])]
          cases es <;> rfl
        · rw [if_neg h1, if_neg (by intro h; apply h1; simpa using h)]
          cases valU k (mkB e0) with
          | none => rfl
          | some a => match es with
            | [] => rfl
            | [e1] => rfl
            | _ :: _ :: _ => rfl
      have hRI : itemJ k l = rngP (loK k) (hiK k) (endsI (loK k) (hiK k) (valB k) p0) (ps.map mkB) (headO mustI ps) := by
        unfold itemJ itemI rngP
        rw [hc]
        dsimp only
        cases endsI (loK k) (hiK k) (valB k) p0 with
        | none => rfl
        | some E => match ps with
          | [] => rfl
          | [p1] => rfl
          | _ :: _ :: _ => rfl
      refine range_core k (loK k) (hiK k) (by have := (loK_hiK k).2; omega) (mkB l) hs M w hM he (mkB p0) (ps.map mkB) (Lib.hid hB) (by rw [mkB_size]; exact h0) (mkB e0) (es.map mkB) (Lib.hid hQ) _ _ rfl rfl (valU k (mkB e0)) (Lib.hid (hU e0 (by have := hm2 e0 (by simp); omega))) (headO (valB k) es) (Lib.hid ?_) (headO mustI ps) (Lib.hid ?_) ?_ _ (Lib.hid hIE) _ (Lib.hid hRI)
      · intro E1 r h
        cases es with
        | nil => cases h
        | cons e1 er =>
          simp only [List.map_cons, List.cons.injEq] at h
          rw [← h.1]
          exact hU e1 (by have := hm2 e1 (by simp); omega)
      · intro P1 r h
        cases ps with
        | nil => cases h
        | cons p1 pr =>
          simp only [List.map_cons, List.cons.injEq] at h
          rw [← h.1]
          intro W hE
          have := mustInt_any (mkB p1) (by rw [mkB_size]; have := hm p1 (by simp); omega) W hE
          rw [mkB_data] at this
          exact this
      · intro v h
        cases ps with
        | nil => cases h
        | cons p1 pr => exact mustI_le p1 v h
set_option maxHeartbeats 400000 in
theorem comma_pred (w : World) : PredAtRunes Tryz.prog 104 #[] (fun r => r == 44) w := fun W x hx hb => by
  show Calls Tryz.prog 104 #[.int .i32 (x : Int)] W _
  cases h : (x == 44) with
  | true =>
    have q : ((x : Int) == 44) = true := by simp at h; subst h; rfl
    go_enter Tryz.func104, Tryz.ntmps104
    go_wp2_with fail
    go_ret
    exact ⟨by dsimp only; rw [h]; rfl, 0, rfl⟩
  | false =>
    have q : ((x : Int) == 44) = false := by simp only [beq_eq_false_iff_ne] at h ⊢; omega
    go_enter Tryz.func104, Tryz.ntmps104
    go_wp2_with fail
    go_ret
    exact ⟨by dsimp only; rw [h]; rfl, 0, rfl⟩
theorem itemBits_lt (i : Item) : i.bits < 18446744073709551616 := by
  unfold Item.bits
  refine Nat.or_lt_two_pow (n := 64) (GB_lt _ _ _) ?_
  split <;> decide
/-- The bits of a list of items, or an error. -/
def FldR (r : Option Nat) (w : World) (e : Ending) (w' : World) : Prop := match r with | some b => OkU b w e w' | none => (∃ n t p, e = .returned (.tuple #[.int .u64 n, .iface t p])) ∧ Below w.heap.size w w'
/-- What cron.getField makes of a text. -/
def fieldJ (k : Nat) (l : List UInt8) : Option Nat := fieldI (itemJ k) ((cutL 44 l).filter (fun z => !z.isEmpty)) 0
theorem fields_mk (l : List UInt8) : Lib.goFieldsP (fun r => r == 44) (mkB l) = ((cutL 44 l).filter (fun z => !z.isEmpty)).map mkB := by
  rw [fields_comma, cutB_mk, mkB_data, List.filter_map]
  congr 1
def RngIs (k lo hi : Nat) (M : Option Nat) (p : List UInt8) (r : Option Item) : Prop := ∀ W : World, Hid (NamesAt k M W) → Hid (Errs W) → Calls Tryz.prog 105 #[.string (mkB p), .agg #[.int .u64 lo, .int .u64 hi, .map M]] W (RngR r W)

set_option maxRecDepth 100000 in
set_option maxHeartbeats 4000000 in
theorem getField_any (k : Nat) (hk : k < 6) (l : List UInt8) (hl : l.length ≤ 2147483654) (M : Option Nat) (w : World) (hM : Hid (NamesAt k M w)) (he : Hid (Errs w)) :
    Calls Tryz.prog 70 #[.string (mkB l), .agg #[.int .u64 (loK k : Nat), .int .u64 (hiK k : Nat), .map M]] w (FldR (fieldJ k l) w) := by
  have hs : (mkB l).size ≤ 4294967296 := by rw [mkB_size]; omega
  have HR : Hid (∀ p ∈ (cutL 44 l).filter (fun z => !z.isEmpty), RngIs k (loK k) (hiK k) M p (itemJ k p)) := Lib.hid (fun p hp W h1 h2 => range_any k hk p (by have := cutL_mem_len 44 l p (List.mem_filter.1 hp).1; omega) M W h1 h2)
  have HF : Hid (Lib.goFieldsP (fun r => r == 44) (mkB l) = ((cutL 44 l).filter (fun z => !z.isEmpty)).map mkB) := Lib.hid (fields_mk l)
  have HJ : Hid (fieldJ k l = fieldI (itemJ k) ((cutL 44 l).filter (fun z => !z.isEmpty)) 0) := Lib.hid rfl
  have HNL : Hid (((cutL 44 l).filter (fun z => !z.isEmpty)).length ≤ 2147483655) := Lib.hid (by
    have := cutB_len 44 (mkB l)
    rw [cutB_mk, mkB_data, List.length_map, mkB_size] at this
    have := List.length_filter_le (fun z : List UInt8 => !z.isEmpty) (cutL 44 l)
    omega)
  generalize (cutL 44 l).filter (fun z => !z.isEmpty) = qs at HR HF HJ HNL
  generalize fieldJ k l = RJ at HJ ⊢
  generalize itemJ k = R at HR HJ
  generalize loK k = lo at *
  generalize hiK k = hi at *
  go_enter Tryz.func70, Tryz.ntmps70
  go_wp2_with fail
  have e0 : (w.alloc (.cells #[.int .u64 lo, .int .u64 hi, .map M] 127)).heap[w.heap.size]? = some (.cells #[.int .u64 lo, .int .u64 hi, .map M] 127) := heap_alloc_new w _
  have hw0 : Below w.heap.size w (w.alloc (.cells #[.int .u64 lo, .int .u64 hi, .map M] 127)) := (by repeat (first | (with_reducible assumption) | (with_reducible exact Below.refl _ _) | (with_reducible refine below_drewN ?_ _) | (with_reducible refine Below.drew ?_) | (with_reducible refine Below.alloc ?_ (by first | omega | (simp <;> omega)) _)))
  have hC := Tryz.strings_FieldsFunc_runes 104 #[] (enters_of Tryz.func104 (by kernel_rfl) rfl) _ (mkB l) (w.alloc (.cells #[.int .u64 lo, .int .u64 hi, .map M] 127)) hs (comma_pred _)
  refine hC.mono ?_
  rintro e w1 ⟨g1, rfl, hg1, hown1, hb1⟩
  clear hC
  have d0 : w1.cell? ⟨w.heap.size, 0, none⟩ = some (.int .u64 lo) := cellB hb1 (cell_of_row _ _ 0 _ _ (0, 0) e0)
  have d1 : w1.cell? ⟨w.heap.size, 1, none⟩ = some (.int .u64 hi) := cellB hb1 (cell_of_row _ _ 1 _ _ (0, 0) e0)
  have d2 : w1.cell? ⟨w.heap.size, 2, none⟩ = some (.map M) := cellB hb1 (cell_of_row _ _ 2 _ _ (0, 0) e0)
  have bk : Below w.heap.size w w1 := hw0.trans (hb1.mono hw0.size)
  clear hb1 hw0 e0 hg1
  rw [HF.out] at hown1 ⊢
  obtain ⟨n, hn⟩ : ∃ n, n = (qs.map mkB).length := ⟨_, rfl⟩
  rw [← hn] at hown1 ⊢
  have HN : Hid (n = qs.length) := Lib.hid (by rw [hn, List.length_map])
  have hn0 : n ≤ 2147483655 := by rw [HN.out]; exact HNL.out
  have HY : Hid (∀ j, (h : j < qs.length) → w1.cell? ⟨g1, j, none⟩ = some (.string (mkB qs[j]))) := Lib.hid (fun j h => by
    have := hown1.cellAt j (by have := HN.out; omega)
    simpa [h] using this)
  have hz : w.heap.size ≤ w1.heap.size := bk.size
  have B1 : Hid (Below w.heap.size w w1) := Lib.hid bk
  have HM1 : Hid (NamesAt k M w1) := Lib.hid (hM.out.below bk)
  have HE1 : Hid (Errs w1) := Lib.hid (he.out.below bk)
  clear hn hown1 bk
  go_wp2_with fail
  go_loopw [6, 16] (fun v6 i wr => ∃ (j b : Nat), j ≤ n ∧ i = .int .i64 j ∧ v6 = .int .u64 b ∧ b < 18446744073709551616 ∧ Hid (fieldI R (qs.drop j) b = RJ) ∧ Hid (Below w1.heap.size w1 wr)) (fun _ i _ => n - (intOf i).toNat)
  case atStart => exact ⟨0, 0, by omega, rfl, rfl, by decide, Lib.hid HJ.out.symm, Lib.hid (Below.refl _ _)⟩
  case round =>
    obtain ⟨j, b, hj, rfl, rfl, hb, hV, hB⟩ := hrel
    have hd0 : wr.cell? ⟨w.heap.size, 0, none⟩ = some (.int .u64 lo) := cellB hB.out d0
    have hd1 : wr.cell? ⟨w.heap.size, 1, none⟩ = some (.int .u64 hi) := cellB hB.out d1
    have hd2 : wr.cell? ⟨w.heap.size, 2, none⟩ = some (.map M) := cellB hB.out d2
    have HMr : Hid (NamesAt k M wr) := Lib.hid (HM1.out.below hB.out)
    have HEr : Hid (Errs wr) := Lib.hid (HE1.out.below hB.out)
    by_cases hlt : j < n
    · have hlp : j < qs.length := by rw [← HN.out]; exact hlt
      have hy : wr.cell? ⟨g1, j, none⟩ = some (.string (mkB qs[j])) := cellB hB.out (HY.out j hlp)
      have HRj := Lib.hid (HR.out qs[j] (List.getElem_mem hlp))
      have HD : Hid (qs.drop j = qs[j] :: qs.drop (j + 1)) := Lib.hid (List.drop_eq_getElem_cons hlp)
      cases hr : R qs[j] with
      | none =>
        have HZ : Hid (RJ = none) := Lib.hid (by rw [← hV.out, HD.out, fieldI, hr])
        rw [hr] at HRj
        clear hr HD
        generalize qs[j] = p at HRj hy
        go_wp2_with fail
        refine (HRj.out _ HMr HEr).mono ?_
        rintro e w2 ⟨⟨t2, p2, rfl⟩, hb2⟩
        have HB2 := Lib.hid hb2
        clear hb2
        go_wp2_with fail
        go_ret2
        rw [HZ.out]
        exact ⟨⟨_, _, _, rfl⟩, B1.out.trans ((hB.out.trans (HB2.out.mono hB.out.size)).mono hz)⟩
      | some i =>
        have HZ : Hid (fieldI R (qs.drop (j + 1)) (b ||| i.bits) = RJ) := Lib.hid (by rw [← hV.out, HD.out, fieldI, hr])
        rw [hr] at HRj
        have hib := itemBits_lt i
        have HOR := Lib.hid (u64_or_nat b i.bits hb hib)
        have HLT : Hid (b ||| i.bits < 18446744073709551616) := Lib.hid (Nat.or_lt_two_pow (n := 64) hb hib)
        clear hr HD
        generalize qs[j] = p at HRj hy
        go_wp2_with fail
        refine (HRj.out _ HMr HEr).mono ?_
        rintro e w2 ⟨rfl, hb2⟩
        have HB2 := Lib.hid hb2
        clear hb2
        go_wp2_with fail
        rw [HOR.out]
        go_roundw
        case rel => exact ⟨j + 1, b ||| i.bits, by omega, by go_num, rfl, HLT.out, HZ, Lib.hid (hB.out.trans (HB2.out.mono hB.out.size))⟩
        case measure => simp [intOf]; omega
    · have HZ : Hid (RJ = some b) := Lib.hid (by rw [← hV.out, List.drop_eq_nil_of_le (by have := HN.out; omega)]; rfl)
      go_wp2_with fail
      go_ret2
      rw [HZ.out]
      exact ⟨rfl, B1.out.trans (hB.out.mono hz)⟩
/-- impl.CronField. -/
def ImpR (r : Option Nat) (w : World) (e : Ending) (w' : World) : Prop := e = .returned (.tuple #[.int .u64 (r.getD 0 : Nat), .bool r.isSome]) ∧ Below w.heap.size w w'
end Go.Proofs.YtkhggefbkhdimaaGreatDoor
