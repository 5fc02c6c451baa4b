/- cron.getRange of any text. -/
import Derived.Test.YtkhggefbkhdimaaGreatDoorFdP
import Derived.Test.YtkhggefbkhdimaaGreatDoorFdL
import Derived.Deep.DeepCutAuto
namespace Go.Proofs.YtkhggefbkhdimaaGreatDoor
open Go.RowKit Go.Shelf
set_option linter.unusedVariables false
set_option linter.unusedSimpArgs false

theorem or_star (v : Nat) (h : v < 18446744073709551616) : bits .or .u64 (v : Int) 9223372036854775808 = ((v ||| 9223372036854775808 : Nat) : Int) := by
  have := u64_or_nat v 9223372036854775808 h (by decide)
  simpa using this
def starN (b : Bool) : Nat := if b = true then 9223372036854775808 else 0
theorem or_starN (v : Nat) (h : v < 18446744073709551616) (b : Bool) : bits .or .u64 (v : Int) (starN b : Nat) = ((v ||| starN b : Nat) : Int) := by
  cases b
  · have := or_zero v h
    simp only [starN]
    simpa using this
  · exact or_star v h
/-- An item, or an error. -/
def RngR (r : Option Item) (w : World) (e : Ending) (w' : World) : Prop := match r with | some i => OkU i.bits w e w' | none => ErrU w e w'
/-- A value is read so, in whatever world that knows the names. -/
def UIs (k : Nat) (M : Option Nat) (t : ByteArray) (r : Option Nat) : Prop := ∀ W : World, Hid (NamesAt k M W) → Hid (Errs W) → Calls Tryz.prog 127 #[.string t, .map M] W (NumR r W)
def StIs (t : ByteArray) (r : Option Nat) : Prop := ∀ W : World, Hid (Errs W) → Calls Tryz.prog 128 #[.string t] W (NumR r W)

def endsP (lo hi : Nat) (sb : Bool) (ES : List ByteArray) (u0 u1 : Option Nat) : Option Ends := if sb = true then some ⟨lo, hi, true, ES.isEmpty⟩ else match u0 with
  | none => none
  | some a => match ES with
    | [] => some ⟨a, a, false, true⟩
    | [_] => (match u1 with | none => none | some b => some ⟨a, b, false, false⟩)
    | _ => none
def rngP (lo hi : Nat) (IE : Option Ends) (PS : List ByteArray) (st : Option Nat) : Option Item := match IE with
  | none => none
  | some E => match PS with
    | [] => finI lo hi false E 1
    | [_] => (match st with | none => none | some q => finI lo hi true E q)
    | _ => none

theorem endsP_single (lo hi : Nat) (sb : Bool) (ES : List ByteArray) (u0 u1 : Option Nat) (E : Ends) (h : endsP lo hi sb ES u0 u1 = some E) : E.single = ES.isEmpty := by
  unfold endsP at h
  split at h
  · have := Option.some.inj h
    rw [← this]
  · split at h
    · cases h
    · split at h
      · have := Option.some.inj h
        rw [← this]; rfl
      · split at h
        · cases h
        · have := Option.some.inj h
          rw [← this]; rfl
      · cases h
theorem finI_none (lo hi : Nat) (two : Bool) (a b : Nat) (sr sg : Bool) (q H : Nat) (hH : H = if (two && sg) = true then hi else b) (h : a < lo ∨ hi < H ∨ H < a ∨ q = 0) : finI lo hi two ⟨a, b, sr, sg⟩ q = none := by
  unfold finI
  dsimp only
  rw [← hH, if_pos h]
theorem finI_some (lo hi : Nat) (two : Bool) (a b : Nat) (sr sg : Bool) (q H : Nat) (hH : H = if (two && sg) = true then hi else b) (h : ¬(a < lo ∨ hi < H ∨ H < a ∨ q = 0)) : finI lo hi two ⟨a, b, sr, sg⟩ q = some ⟨a, H, q, sr && decide (q ≤ 1)⟩ := by
  unfold finI
  dsimp only
  rw [← hH, if_neg h]

def CutA (IE : Option Ends) (w2 : World) (s6 s7 s13 : Value) (wx : World) : Prop := ∃ E : Ends, Hid (IE = some E) ∧ s6 = .int .u64 E.low ∧ s7 = .int .u64 E.high ∧ s13 = .int .u64 (starN E.star : Nat) ∧ Below w2.heap.size w2 wx

set_option maxRecDepth 100000 in
set_option maxHeartbeats 8000000 in
theorem range_core (k lo hi : Nat) (h62 : hi ≤ 62) (l : ByteArray) (hl : l.size ≤ 2147483654) (M : Option Nat) (w : World) (hM : Hid (NamesAt k M w)) (he : Hid (Errs w))
    (P0 : ByteArray) (PS : List ByteArray) (HP : Hid (cutB 47 l = P0 :: PS)) (hP0 : P0.size ≤ 2147483654) (E0 : ByteArray) (ES : List ByteArray) (HQ : Hid (cutB 45 P0 = E0 :: ES))
    (b1 b2 : Bool) (hb1 : (E0.toList == [42]) = b1) (hb2 : (E0.toList == [63]) = b2) (u0 : Option Nat) (HU0 : Hid (UIs k M E0 u0)) (u1 : Option Nat) (HU1 : Hid (∀ E1 r, ES = E1 :: r → UIs k M E1 u1)) (st : Option Nat) (HST : Hid (∀ P1 r, PS = P1 :: r → StIs P1 st)) (hst : ∀ v, st = some v → v ≤ 9223372036854775807)
    (IE : Option Ends) (HIE : Hid (IE = endsP lo hi (b1 || b2) ES u0 u1)) (RI : Option Item) (HRI : Hid (RI = rngP lo hi IE PS st)) :
    Calls Tryz.prog 105 #[.string l, .agg #[.int .u64 lo, .int .u64 hi, .map M]] w (RngR RI w) := by
  go_enter Tryz.func105, Tryz.ntmps105
  go_wp2_with fail
  have e0 : (w.alloc (.cells #[.int .u64 lo, .int .u64 hi, .map M] 127)).heap[w.heap.size]? = some (.cells #[.int .u64 lo, .int .u64 hi, .map M] 127) := heap_alloc_new w _
  have hw0 : Below w.heap.size w (w.alloc (.cells #[.int .u64 lo, .int .u64 hi, .map M] 127)) := (by repeat (first | (with_reducible assumption) | (with_reducible exact Below.refl _ _) | (with_reducible refine below_drewN ?_ _) | (with_reducible refine Below.drew ?_) | (with_reducible refine Below.alloc ?_ (by first | omega | (simp <;> omega)) _)))
  refine (splitSv_any l 47 (by omega) _).mono ?_
  rintro e w1 ⟨v1, rfl, hown1, hq1⟩
  have d0 : w1.cell? ⟨w.heap.size, 0, none⟩ = some (.int .u64 lo) := cellB hq1 (cell_of_row _ _ 0 _ _ (0, 0) e0)
  have d1 : w1.cell? ⟨w.heap.size, 1, none⟩ = some (.int .u64 hi) := cellB hq1 (cell_of_row _ _ 1 _ _ (0, 0) e0)
  have d2 : w1.cell? ⟨w.heap.size, 2, none⟩ = some (.map M) := cellB hq1 (cell_of_row _ _ 2 _ _ (0, 0) e0)
  have bk : Below w.heap.size w w1 := hw0.trans (hq1.mono hw0.size)
  clear hq1 hw0 e0
  rw [show ((47 : UInt8).toNat : Int) = 47 from rfl, HP.out] at hown1
  obtain ⟨g1, cap1, rfl, hc1, hm1, hcell1⟩ := own_open hown1 (by simp)
  have x0 : w1.cell? ⟨g1, 0, none⟩ = some (.string P0) := hcell1 0 (by simp)
  obtain ⟨n1, hn1⟩ : ∃ n1, n1 = (P0 :: PS).length := ⟨_, rfl⟩
  rw [← hn1] at hc1 ⊢
  have HN1 : Hid (n1 = PS.length + 1) := Lib.hid (by rw [hn1]; simp)
  have HX : Hid (∀ P1 r, PS = P1 :: r → w1.cell? ⟨g1, 1, none⟩ = some (.string P1)) := Lib.hid (fun P1 r h => by subst h; exact hcell1 1 (by simp))
  have hp1 : 0 < n1 := by rw [hn1]; simp
  clear hown1 hcell1 hn1
  unfold maxLen at hm1
  go_wp2_with fail
  refine (splitSv_any P0 45 (by omega) _).mono ?_
  rintro e w2 ⟨v2, rfl, hown2, hq2⟩
  have d0 : w2.cell? ⟨w.heap.size, 0, none⟩ = some (.int .u64 lo) := cellB hq2 d0
  have d1 : w2.cell? ⟨w.heap.size, 1, none⟩ = some (.int .u64 hi) := cellB hq2 d1
  have d2 : w2.cell? ⟨w.heap.size, 2, none⟩ = some (.map M) := cellB hq2 d2
  replace HX : Hid (∀ P1 r, PS = P1 :: r → w2.cell? ⟨g1, 1, none⟩ = some (.string P1)) := Lib.hid (fun P1 r h => cellB hq2 (HX.out P1 r h))
  replace bk : Below w.heap.size w w2 := bk.trans (hq2.mono bk.size)
  clear hq2 x0
  rw [show ((45 : UInt8).toNat : Int) = 45 from rfl, HQ.out] at hown2
  obtain ⟨g2, cap2, rfl, hc2, hm2, hcell2⟩ := own_open hown2 (by simp)
  have y0 : w2.cell? ⟨g2, 0, none⟩ = some (.string E0) := hcell2 0 (by simp)
  obtain ⟨n2, hn2⟩ : ∃ n2, n2 = (E0 :: ES).length := ⟨_, rfl⟩
  rw [← hn2] at hc2 ⊢
  have HN2 : Hid (n2 = ES.length + 1) := Lib.hid (by rw [hn2]; simp)
  have HY : Hid (∀ E1 r, ES = E1 :: r → w2.cell? ⟨g2, 1, none⟩ = some (.string E1)) := Lib.hid (fun E1 r h => by subst h; exact hcell2 1 (by simp))
  have hp2 : 0 < n2 := by rw [hn2]; simp
  clear hown2 hcell2 hn2
  unfold maxLen at hm2
  have HM2 : Hid (NamesAt k M w2) := Lib.hid (hM.out.below bk)
  have HE2 : Hid (Errs w2) := Lib.hid (he.out.below bk)
  obtain ⟨sd, hsd⟩ : ∃ sd : Bool, ((n2 : Int) == 1) = sd := ⟨_, rfl⟩
  have HSD : Hid (sd = ES.isEmpty) := Lib.hid (by
    rw [← hsd, HN2.out]
    cases ES with
    | nil => rfl
    | cons a r => simp only [List.length_cons, List.isEmpty_cons, beq_eq_false_iff_ne]; omega)
  have B2 : Hid (Below w.heap.size w w2) := Lib.hid bk
  have hz : w.heap.size ≤ w2.heap.size := bk.size
  clear bk
  go_upto_region 7 with fail
  go_cut [32] (fun v wx => v = .bool (b1 || b2) ∧ w2 = wx)
  case first =>
    cases b1 <;> cases b2 <;> (go_wp2_with fail; go_meet; exact ⟨rfl, rfl⟩)
  case rest =>
    obtain ⟨rfl, rfl⟩ := hcut
    clear hb1 hb2
    generalize (b1 || b2) = sb at HIE ⊢
    go_upto_if 32 with fail
    go_cut [6, 7, 13] (fun s6 s7 s13 wx => CutA IE w2 s6 s7 s13 wx)
    case first =>
      cases sb with
      | true =>
        have HI : Hid (IE = some ⟨lo, hi, true, ES.isEmpty⟩) := Lib.hid (by rw [HIE.out]; rfl)
        go_wp2_with fail
        go_meet
        exact ⟨_, HI, rfl, rfl, rfl, Below.refl _ _⟩
      | false =>
        cases u0 with
        | none =>
          have HR : Hid (RI = none) := Lib.hid (by rw [HRI.out, HIE.out]; rfl)
          go_wp2_with fail
          have bk : Below w2.heap.size w2 w2 := Below.refl _ _
          go_region_held3 (fun w' => w'.cell? ⟨w.heap.size, 0, none⟩ = some (.int .u64 lo) ∧ w'.cell? ⟨w.heap.size, 1, none⟩ = some (.int .u64 hi) ∧ w'.cell? ⟨w.heap.size, 2, none⟩ = some (.map M) ∧ w'.cell? ⟨g2, 0, none⟩ = some (.string E0)) (first | (refine ⟨?_, ?_, ?_, ?_⟩ <;> (repeat (first | assumption | (with_reducible refine keepD ?_) | (with_reducible refine keepN ?_) | (with_reducible refine keepV ?_)))) | go_keep)
            (first | (go_at_call 127; refine (HU0.out _ (Lib.hid (HM2.out.below (by repeat (first | (with_reducible assumption) | (with_reducible exact Below.refl _ _) | (with_reducible refine below_drewN ?_ _) | (with_reducible refine Below.drew ?_) | (with_reducible refine Below.alloc ?_ (by first | omega | (simp <;> omega)) _))))) (Lib.hid (HE2.out.below (by repeat (first | (with_reducible assumption) | (with_reducible exact Below.refl _ _) | (with_reducible refine below_drewN ?_ _) | (with_reducible refine Below.drew ?_) | (with_reducible refine Below.alloc ?_ (by first | omega | (simp <;> omega)) _)))))).mono ?_; rintro e w3 ⟨⟨t3, p3, rfl⟩, hb3⟩; have d0 : w3.cell? ⟨w.heap.size, 0, none⟩ = some (.int .u64 lo) := (by refine cellB hb3 ?_; (repeat (first | assumption | (with_reducible refine keepD ?_) | (with_reducible refine keepN ?_) | (with_reducible refine keepV ?_)))); have d1 : w3.cell? ⟨w.heap.size, 1, none⟩ = some (.int .u64 hi) := (by refine cellB hb3 ?_; (repeat (first | assumption | (with_reducible refine keepD ?_) | (with_reducible refine keepN ?_) | (with_reducible refine keepV ?_)))); have d2 : w3.cell? ⟨w.heap.size, 2, none⟩ = some (.map M) := (by refine cellB hb3 ?_; (repeat (first | assumption | (with_reducible refine keepD ?_) | (with_reducible refine keepN ?_) | (with_reducible refine keepV ?_)))); have y0 : w3.cell? ⟨g2, 0, none⟩ = some (.string E0) := (by refine cellB hb3 ?_; (repeat (first | assumption | (with_reducible refine keepD ?_) | (with_reducible refine keepN ?_) | (with_reducible refine keepV ?_)))); replace bk : Below w2.heap.size w2 w3 := Below.trans (by repeat (first | (with_reducible assumption) | (with_reducible exact Below.refl _ _) | (with_reducible refine below_drewN ?_ _) | (with_reducible refine Below.drew ?_) | (with_reducible refine Below.alloc ?_ (by first | omega | (simp <;> omega)) _))) (hb3.mono (by have := bk.size; first | omega | (simp <;> omega))); clear hb3))
          go_wp2_with fail
          refine bodyPost_ret (v := .tuple #[.int .u64 0, .iface t3 p3]) (by simp [results, Tryz.results105, go_sem]) rfl ?_
          rw [HR.out]
          exact ⟨⟨t3, p3, rfl⟩, B2.out.trans (bk.mono hz)⟩
        | some a =>
          match ES, HN2, HSD, HY, HU1, HIE with
          | [], HN2, HSD, HY, HU1, HIE =>
            have HI : Hid (IE = some ⟨a, a, false, true⟩) := Lib.hid (by rw [HIE.out]; rfl)
            have hs := HSD.out
            simp only [List.isEmpty_nil] at hs
            subst hs
            go_wp2_with fail
            have bk : Below w2.heap.size w2 w2 := Below.refl _ _
            go_region_held3 (fun w' => w'.cell? ⟨w.heap.size, 0, none⟩ = some (.int .u64 lo) ∧ w'.cell? ⟨w.heap.size, 1, none⟩ = some (.int .u64 hi) ∧ w'.cell? ⟨w.heap.size, 2, none⟩ = some (.map M) ∧ w'.cell? ⟨g2, 0, none⟩ = some (.string E0)) (first | (refine ⟨?_, ?_, ?_, ?_⟩ <;> (repeat (first | assumption | (with_reducible refine keepD ?_) | (with_reducible refine keepN ?_) | (with_reducible refine keepV ?_)))) | go_keep)
              (first | (go_at_call 127; refine (HU0.out _ (Lib.hid (HM2.out.below (by repeat (first | (with_reducible assumption) | (with_reducible exact Below.refl _ _) | (with_reducible refine below_drewN ?_ _) | (with_reducible refine Below.drew ?_) | (with_reducible refine Below.alloc ?_ (by first | omega | (simp <;> omega)) _))))) (Lib.hid (HE2.out.below (by repeat (first | (with_reducible assumption) | (with_reducible exact Below.refl _ _) | (with_reducible refine below_drewN ?_ _) | (with_reducible refine Below.drew ?_) | (with_reducible refine Below.alloc ?_ (by first | omega | (simp <;> omega)) _)))))).mono ?_; rintro e w3 ⟨rfl, hb3⟩; have d0 : w3.cell? ⟨w.heap.size, 0, none⟩ = some (.int .u64 lo) := (by refine cellB hb3 ?_; (repeat (first | assumption | (with_reducible refine keepD ?_) | (with_reducible refine keepN ?_) | (with_reducible refine keepV ?_)))); have d1 : w3.cell? ⟨w.heap.size, 1, none⟩ = some (.int .u64 hi) := (by refine cellB hb3 ?_; (repeat (first | assumption | (with_reducible refine keepD ?_) | (with_reducible refine keepN ?_) | (with_reducible refine keepV ?_)))); have d2 : w3.cell? ⟨w.heap.size, 2, none⟩ = some (.map M) := (by refine cellB hb3 ?_; (repeat (first | assumption | (with_reducible refine keepD ?_) | (with_reducible refine keepN ?_) | (with_reducible refine keepV ?_)))); have y0 : w3.cell? ⟨g2, 0, none⟩ = some (.string E0) := (by refine cellB hb3 ?_; (repeat (first | assumption | (with_reducible refine keepD ?_) | (with_reducible refine keepN ?_) | (with_reducible refine keepV ?_)))); replace bk : Below w2.heap.size w2 w3 := Below.trans (by repeat (first | (with_reducible assumption) | (with_reducible exact Below.refl _ _) | (with_reducible refine below_drewN ?_ _) | (with_reducible refine Below.drew ?_) | (with_reducible refine Below.alloc ?_ (by first | omega | (simp <;> omega)) _))) (hb3.mono (by have := bk.size; first | omega | (simp <;> omega))); clear hb3))
            go_wp2_with fail
            go_meet
            exact ⟨_, HI, rfl, rfl, rfl, bk⟩
          | [E1], HN2, HSD, HY, HU1, HIE =>
            have hs := HSD.out
            simp only [List.isEmpty_cons] at hs
            subst hs
            have y1 := HY.out E1 [] rfl
            have hU1 := Lib.hid (HU1.out E1 [] rfl)
            have hn2 := HN2.out
            simp only [List.length_cons, List.length_nil, Nat.zero_add, Nat.reduceAdd] at hn2
            subst hn2
            cases u1 with
            | none =>
              have HR : Hid (RI = none) := Lib.hid (by rw [HRI.out, HIE.out]; rfl)
              go_wp2_with fail
              have bk : Below w2.heap.size w2 w2 := Below.refl _ _
              go_region_held3 (fun w' => w'.cell? ⟨w.heap.size, 0, none⟩ = some (.int .u64 lo) ∧ w'.cell? ⟨w.heap.size, 1, none⟩ = some (.int .u64 hi) ∧ w'.cell? ⟨w.heap.size, 2, none⟩ = some (.map M) ∧ w'.cell? ⟨g2, 0, none⟩ = some (.string E0) ∧ w'.cell? ⟨g2, 1, none⟩ = some (.string E1)) (first | (refine ⟨?_, ?_, ?_, ?_, ?_⟩ <;> (repeat (first | assumption | (with_reducible refine keepD ?_) | (with_reducible refine keepN ?_) | (with_reducible refine keepV ?_)))) | go_keep)
                (first | (go_at_call 127; refine (HU0.out _ (Lib.hid (HM2.out.below (by repeat (first | (with_reducible assumption) | (with_reducible exact Below.refl _ _) | (with_reducible refine below_drewN ?_ _) | (with_reducible refine Below.drew ?_) | (with_reducible refine Below.alloc ?_ (by first | omega | (simp <;> omega)) _))))) (Lib.hid (HE2.out.below (by repeat (first | (with_reducible assumption) | (with_reducible exact Below.refl _ _) | (with_reducible refine below_drewN ?_ _) | (with_reducible refine Below.drew ?_) | (with_reducible refine Below.alloc ?_ (by first | omega | (simp <;> omega)) _)))))).mono ?_; rintro e w3 ⟨rfl, hb3⟩; have d0 : w3.cell? ⟨w.heap.size, 0, none⟩ = some (.int .u64 lo) := (by refine cellB hb3 ?_; (repeat (first | assumption | (with_reducible refine keepD ?_) | (with_reducible refine keepN ?_) | (with_reducible refine keepV ?_)))); have d1 : w3.cell? ⟨w.heap.size, 1, none⟩ = some (.int .u64 hi) := (by refine cellB hb3 ?_; (repeat (first | assumption | (with_reducible refine keepD ?_) | (with_reducible refine keepN ?_) | (with_reducible refine keepV ?_)))); have d2 : w3.cell? ⟨w.heap.size, 2, none⟩ = some (.map M) := (by refine cellB hb3 ?_; (repeat (first | assumption | (with_reducible refine keepD ?_) | (with_reducible refine keepN ?_) | (with_reducible refine keepV ?_)))); have y0 : w3.cell? ⟨g2, 0, none⟩ = some (.string E0) := (by refine cellB hb3 ?_; (repeat (first | assumption | (with_reducible refine keepD ?_) | (with_reducible refine keepN ?_) | (with_reducible refine keepV ?_)))); have y1 : w3.cell? ⟨g2, 1, none⟩ = some (.string E1) := (by refine cellB hb3 ?_; (repeat (first | assumption | (with_reducible refine keepD ?_) | (with_reducible refine keepN ?_) | (with_reducible refine keepV ?_)))); replace bk : Below w2.heap.size w2 w3 := Below.trans (by repeat (first | (with_reducible assumption) | (with_reducible exact Below.refl _ _) | (with_reducible refine below_drewN ?_ _) | (with_reducible refine Below.drew ?_) | (with_reducible refine Below.alloc ?_ (by first | omega | (simp <;> omega)) _))) (hb3.mono (by have := bk.size; first | omega | (simp <;> omega))); clear hb3))
              go_wp2_with fail
              go_region_held3 (fun w' => w'.cell? ⟨w.heap.size, 0, none⟩ = some (.int .u64 lo) ∧ w'.cell? ⟨w.heap.size, 1, none⟩ = some (.int .u64 hi) ∧ w'.cell? ⟨w.heap.size, 2, none⟩ = some (.map M) ∧ w'.cell? ⟨g2, 0, none⟩ = some (.string E0) ∧ w'.cell? ⟨g2, 1, none⟩ = some (.string E1)) (first | (refine ⟨?_, ?_, ?_, ?_, ?_⟩ <;> (repeat (first | assumption | (with_reducible refine keepD ?_) | (with_reducible refine keepN ?_) | (with_reducible refine keepV ?_)))) | go_keep)
                (first | (go_at_call 127; refine (hU1.out _ (Lib.hid (HM2.out.below (by repeat (first | (with_reducible assumption) | (with_reducible exact Below.refl _ _) | (with_reducible refine below_drewN ?_ _) | (with_reducible refine Below.drew ?_) | (with_reducible refine Below.alloc ?_ (by first | omega | (simp <;> omega)) _))))) (Lib.hid (HE2.out.below (by repeat (first | (with_reducible assumption) | (with_reducible exact Below.refl _ _) | (with_reducible refine below_drewN ?_ _) | (with_reducible refine Below.drew ?_) | (with_reducible refine Below.alloc ?_ (by first | omega | (simp <;> omega)) _)))))).mono ?_; rintro e w4 ⟨⟨t4, p4, rfl⟩, hb4⟩; have d0 : w4.cell? ⟨w.heap.size, 0, none⟩ = some (.int .u64 lo) := (by refine cellB hb4 ?_; (repeat (first | assumption | (with_reducible refine keepD ?_) | (with_reducible refine keepN ?_) | (with_reducible refine keepV ?_)))); have d1 : w4.cell? ⟨w.heap.size, 1, none⟩ = some (.int .u64 hi) := (by refine cellB hb4 ?_; (repeat (first | assumption | (with_reducible refine keepD ?_) | (with_reducible refine keepN ?_) | (with_reducible refine keepV ?_)))); have d2 : w4.cell? ⟨w.heap.size, 2, none⟩ = some (.map M) := (by refine cellB hb4 ?_; (repeat (first | assumption | (with_reducible refine keepD ?_) | (with_reducible refine keepN ?_) | (with_reducible refine keepV ?_)))); have y0 : w4.cell? ⟨g2, 0, none⟩ = some (.string E0) := (by refine cellB hb4 ?_; (repeat (first | assumption | (with_reducible refine keepD ?_) | (with_reducible refine keepN ?_) | (with_reducible refine keepV ?_)))); have y1 : w4.cell? ⟨g2, 1, none⟩ = some (.string E1) := (by refine cellB hb4 ?_; (repeat (first | assumption | (with_reducible refine keepD ?_) | (with_reducible refine keepN ?_) | (with_reducible refine keepV ?_)))); replace bk : Below w2.heap.size w2 w4 := Below.trans (by repeat (first | (with_reducible assumption) | (with_reducible exact Below.refl _ _) | (with_reducible refine below_drewN ?_ _) | (with_reducible refine Below.drew ?_) | (with_reducible refine Below.alloc ?_ (by first | omega | (simp <;> omega)) _))) (hb4.mono (by have := bk.size; first | omega | (simp <;> omega))); clear hb4))
              go_wp2_with fail
              refine bodyPost_ret (v := .tuple #[.int .u64 0, .iface t4 p4]) (by simp [results, Tryz.results105, go_sem]) rfl ?_
              rw [HR.out]
              exact ⟨⟨t4, p4, rfl⟩, B2.out.trans (bk.mono hz)⟩
            | some b =>
              have HI : Hid (IE = some ⟨a, b, false, false⟩) := Lib.hid (by rw [HIE.out]; rfl)
              go_wp2_with fail
              have bk : Below w2.heap.size w2 w2 := Below.refl _ _
              go_region_held3 (fun w' => w'.cell? ⟨w.heap.size, 0, none⟩ = some (.int .u64 lo) ∧ w'.cell? ⟨w.heap.size, 1, none⟩ = some (.int .u64 hi) ∧ w'.cell? ⟨w.heap.size, 2, none⟩ = some (.map M) ∧ w'.cell? ⟨g2, 0, none⟩ = some (.string E0) ∧ w'.cell? ⟨g2, 1, none⟩ = some (.string E1)) (first | (refine ⟨?_, ?_, ?_, ?_, ?_⟩ <;> (repeat (first | assumption | (with_reducible refine keepD ?_) | (with_reducible refine keepN ?_) | (with_reducible refine keepV ?_)))) | go_keep)
                (first | (go_at_call 127; refine (HU0.out _ (Lib.hid (HM2.out.below (by repeat (first | (with_reducible assumption) | (with_reducible exact Below.refl _ _) | (with_reducible refine below_drewN ?_ _) | (with_reducible refine Below.drew ?_) | (with_reducible refine Below.alloc ?_ (by first | omega | (simp <;> omega)) _))))) (Lib.hid (HE2.out.below (by repeat (first | (with_reducible assumption) | (with_reducible exact Below.refl _ _) | (with_reducible refine below_drewN ?_ _) | (with_reducible refine Below.drew ?_) | (with_reducible refine Below.alloc ?_ (by first | omega | (simp <;> omega)) _)))))).mono ?_; rintro e w3 ⟨rfl, hb3⟩; have d0 : w3.cell? ⟨w.heap.size, 0, none⟩ = some (.int .u64 lo) := (by refine cellB hb3 ?_; (repeat (first | assumption | (with_reducible refine keepD ?_) | (with_reducible refine keepN ?_) | (with_reducible refine keepV ?_)))); have d1 : w3.cell? ⟨w.heap.size, 1, none⟩ = some (.int .u64 hi) := (by refine cellB hb3 ?_; (repeat (first | assumption | (with_reducible refine keepD ?_) | (with_reducible refine keepN ?_) | (with_reducible refine keepV ?_)))); have d2 : w3.cell? ⟨w.heap.size, 2, none⟩ = some (.map M) := (by refine cellB hb3 ?_; (repeat (first | assumption | (with_reducible refine keepD ?_) | (with_reducible refine keepN ?_) | (with_reducible refine keepV ?_)))); have y0 : w3.cell? ⟨g2, 0, none⟩ = some (.string E0) := (by refine cellB hb3 ?_; (repeat (first | assumption | (with_reducible refine keepD ?_) | (with_reducible refine keepN ?_) | (with_reducible refine keepV ?_)))); have y1 : w3.cell? ⟨g2, 1, none⟩ = some (.string E1) := (by refine cellB hb3 ?_; (repeat (first | assumption | (with_reducible refine keepD ?_) | (with_reducible refine keepN ?_) | (with_reducible refine keepV ?_)))); replace bk : Below w2.heap.size w2 w3 := Below.trans (by repeat (first | (with_reducible assumption) | (with_reducible exact Below.refl _ _) | (with_reducible refine below_drewN ?_ _) | (with_reducible refine Below.drew ?_) | (with_reducible refine Below.alloc ?_ (by first | omega | (simp <;> omega)) _))) (hb3.mono (by have := bk.size; first | omega | (simp <;> omega))); clear hb3))
              go_wp2_with fail
              go_region_held3 (fun w' => w'.cell? ⟨w.heap.size, 0, none⟩ = some (.int .u64 lo) ∧ w'.cell? ⟨w.heap.size, 1, none⟩ = some (.int .u64 hi) ∧ w'.cell? ⟨w.heap.size, 2, none⟩ = some (.map M) ∧ w'.cell? ⟨g2, 0, none⟩ = some (.string E0) ∧ w'.cell? ⟨g2, 1, none⟩ = some (.string E1)) (first | (refine ⟨?_, ?_, ?_, ?_, ?_⟩ <;> (repeat (first | assumption | (with_reducible refine keepD ?_) | (with_reducible refine keepN ?_) | (with_reducible refine keepV ?_)))) | go_keep)
                (first | (go_at_call 127; refine (hU1.out _ (Lib.hid (HM2.out.below (by repeat (first | (with_reducible assumption) | (with_reducible exact Below.refl _ _) | (with_reducible refine below_drewN ?_ _) | (with_reducible refine Below.drew ?_) | (with_reducible refine Below.alloc ?_ (by first | omega | (simp <;> omega)) _))))) (Lib.hid (HE2.out.below (by repeat (first | (with_reducible assumption) | (with_reducible exact Below.refl _ _) | (with_reducible refine below_drewN ?_ _) | (with_reducible refine Below.drew ?_) | (with_reducible refine Below.alloc ?_ (by first | omega | (simp <;> omega)) _)))))).mono ?_; rintro e w4 ⟨rfl, hb4⟩; have d0 : w4.cell? ⟨w.heap.size, 0, none⟩ = some (.int .u64 lo) := (by refine cellB hb4 ?_; (repeat (first | assumption | (with_reducible refine keepD ?_) | (with_reducible refine keepN ?_) | (with_reducible refine keepV ?_)))); have d1 : w4.cell? ⟨w.heap.size, 1, none⟩ = some (.int .u64 hi) := (by refine cellB hb4 ?_; (repeat (first | assumption | (with_reducible refine keepD ?_) | (with_reducible refine keepN ?_) | (with_reducible refine keepV ?_)))); have d2 : w4.cell? ⟨w.heap.size, 2, none⟩ = some (.map M) := (by refine cellB hb4 ?_; (repeat (first | assumption | (with_reducible refine keepD ?_) | (with_reducible refine keepN ?_) | (with_reducible refine keepV ?_)))); have y0 : w4.cell? ⟨g2, 0, none⟩ = some (.string E0) := (by refine cellB hb4 ?_; (repeat (first | assumption | (with_reducible refine keepD ?_) | (with_reducible refine keepN ?_) | (with_reducible refine keepV ?_)))); have y1 : w4.cell? ⟨g2, 1, none⟩ = some (.string E1) := (by refine cellB hb4 ?_; (repeat (first | assumption | (with_reducible refine keepD ?_) | (with_reducible refine keepN ?_) | (with_reducible refine keepV ?_)))); replace bk : Below w2.heap.size w2 w4 := Below.trans (by repeat (first | (with_reducible assumption) | (with_reducible exact Below.refl _ _) | (with_reducible refine below_drewN ?_ _) | (with_reducible refine Below.drew ?_) | (with_reducible refine Below.alloc ?_ (by first | omega | (simp <;> omega)) _))) (hb4.mono (by have := bk.size; first | omega | (simp <;> omega))); clear hb4))
              go_wp2_with fail
              go_meet
              exact ⟨_, HI, rfl, rfl, rfl, bk⟩
          | E1 :: E2 :: ER, HN2, HSD, HY, HU1, HIE =>
            have HR : Hid (RI = none) := Lib.hid (by rw [HRI.out, HIE.out]; rfl)
            have hs := HSD.out
            simp only [List.isEmpty_cons] at hs
            subst hs
            have q2 : ((n2 : Int) == 2) = false := by
              have := HN2.out
              simp only [List.length_cons] at this
              simp only [beq_eq_false_iff_ne]; omega
            go_wp2_with fail
            have bk : Below w2.heap.size w2 w2 := Below.refl _ _
            go_region_held3 (fun w' => w'.cell? ⟨w.heap.size, 0, none⟩ = some (.int .u64 lo) ∧ w'.cell? ⟨w.heap.size, 1, none⟩ = some (.int .u64 hi) ∧ w'.cell? ⟨w.heap.size, 2, none⟩ = some (.map M) ∧ w'.cell? ⟨g2, 0, none⟩ = some (.string E0)) (first | (refine ⟨?_, ?_, ?_, ?_⟩ <;> (repeat (first | assumption | (with_reducible refine keepD ?_) | (with_reducible refine keepN ?_) | (with_reducible refine keepV ?_)))) | go_keep)
              (first | (go_at_call 127; refine (HU0.out _ (Lib.hid (HM2.out.below (by repeat (first | (with_reducible assumption) | (with_reducible exact Below.refl _ _) | (with_reducible refine below_drewN ?_ _) | (with_reducible refine Below.drew ?_) | (with_reducible refine Below.alloc ?_ (by first | omega | (simp <;> omega)) _))))) (Lib.hid (HE2.out.below (by repeat (first | (with_reducible assumption) | (with_reducible exact Below.refl _ _) | (with_reducible refine below_drewN ?_ _) | (with_reducible refine Below.drew ?_) | (with_reducible refine Below.alloc ?_ (by first | omega | (simp <;> omega)) _)))))).mono ?_; rintro e w3 ⟨rfl, hb3⟩; have d0 : w3.cell? ⟨w.heap.size, 0, none⟩ = some (.int .u64 lo) := (by refine cellB hb3 ?_; (repeat (first | assumption | (with_reducible refine keepD ?_) | (with_reducible refine keepN ?_) | (with_reducible refine keepV ?_)))); have d1 : w3.cell? ⟨w.heap.size, 1, none⟩ = some (.int .u64 hi) := (by refine cellB hb3 ?_; (repeat (first | assumption | (with_reducible refine keepD ?_) | (with_reducible refine keepN ?_) | (with_reducible refine keepV ?_)))); have d2 : w3.cell? ⟨w.heap.size, 2, none⟩ = some (.map M) := (by refine cellB hb3 ?_; (repeat (first | assumption | (with_reducible refine keepD ?_) | (with_reducible refine keepN ?_) | (with_reducible refine keepV ?_)))); have y0 : w3.cell? ⟨g2, 0, none⟩ = some (.string E0) := (by refine cellB hb3 ?_; (repeat (first | assumption | (with_reducible refine keepD ?_) | (with_reducible refine keepN ?_) | (with_reducible refine keepV ?_)))); replace bk : Below w2.heap.size w2 w3 := Below.trans (by repeat (first | (with_reducible assumption) | (with_reducible exact Below.refl _ _) | (with_reducible refine below_drewN ?_ _) | (with_reducible refine Below.drew ?_) | (with_reducible refine Below.alloc ?_ (by first | omega | (simp <;> omega)) _))) (hb3.mono (by have := bk.size; first | omega | (simp <;> omega))); clear hb3))
            go_wp2_with fail
            refine (errNew_any _ _).mono ?_
            rintro e w9 ⟨⟨t9, p9, rfl⟩, rfl⟩
            go_wp2_with fail
            refine bodyPost_ret (v := .tuple #[.int .u64 0, .iface t9 p9]) (by simp [results, Tryz.results105, go_sem]) rfl ?_
            rw [HR.out]
            exact ⟨⟨t9, p9, rfl⟩, B2.out.trans ((bk.alloc bk.size _).mono hz)⟩
    case rest =>
      obtain ⟨E, HE, rfl, rfl, rfl, hb5⟩ := hcut
      have HSG : Hid (E.single = sd) := Lib.hid (by rw [HSD.out]; exact endsP_single _ _ _ _ _ _ _ (by rw [← HIE.out]; exact HE.out))
      have hsz : w.heap.size ≤ wc.heap.size := by have := hb5.size; omega
      have B5 : Hid (Below w.heap.size w wc) := Lib.hid (B2.out.trans (hb5.mono hz))
      have d0 : wc.cell? ⟨w.heap.size, 0, none⟩ = some (.int .u64 lo) := cellB hb5 d0
      have d1 : wc.cell? ⟨w.heap.size, 1, none⟩ = some (.int .u64 hi) := cellB hb5 d1
      have HX5 : Hid (∀ P1 r, PS = P1 :: r → wc.cell? ⟨g1, 1, none⟩ = some (.string P1)) := Lib.hid (fun P1 r h => cellB hb5 (HX.out P1 r h))
      have HE5 : Hid (Errs wc) := Lib.hid (HE2.out.below hb5)
      have HRE : Hid (RI = rngP lo hi (some E) PS st) := Lib.hid (by rw [HRI.out, HE.out])
      obtain ⟨a, b, sr, sg⟩ := E
      have HSG2 : Hid (sg = sd) := Lib.hid HSG.out
      have hsg := HSG2.out
      subst hsg
      dsimp only
      clear hb5 HSG HE HRI HIE HX HU0 HU1 y0 HSD HY HSG2
      match PS, HN1, HX5, HST, HRE with
      | [], HN1, HX5, HST, HRE =>
        have hn1 := HN1.out
        simp only [List.length_nil, Nat.zero_add] at hn1
        subst hn1
        have HR : Hid (RI = finI lo hi false ⟨a, b, sr, sg⟩ 1) := Lib.hid (by rw [HRE.out]; rfl)
        clear HX5 HST HRE
        by_cases c1 : a < lo
        · have g1 : decide (a < lo) = true := decide_eq_true c1
          have HRn : Hid (RI = none) := Lib.hid (by rw [HR.out]; exact finI_none lo hi false a b sr sg 1 b (by simp) (Or.inl c1))
          go_wp2_with fail
          refine (errNew_any _ _).mono ?_
          rintro e w9 ⟨⟨t9, p9, rfl⟩, rfl⟩
          go_wp2_with fail
          refine bodyPost_ret (v := .tuple #[.int .u64 0, .iface t9 p9]) (by simp [results, Tryz.results105, go_sem]) rfl ?_
          rw [HRn.out]
          exact ⟨⟨t9, p9, rfl⟩, B5.out.alloc (by have := B5.out.size; omega) _⟩
        · have g1 : decide (a < lo) = false := decide_eq_false c1
          by_cases c2 : hi < b
          · have g2 : decide (hi < b) = true := decide_eq_true c2
            have HRn : Hid (RI = none) := Lib.hid (by rw [HR.out]; exact finI_none lo hi false a b sr sg 1 b (by simp) (Or.inr (Or.inl c2)))
            go_wp2_with fail
            refine (errNew_any _ _).mono ?_
            rintro e w9 ⟨⟨t9, p9, rfl⟩, rfl⟩
            go_wp2_with fail
            refine bodyPost_ret (v := .tuple #[.int .u64 0, .iface t9 p9]) (by simp [results, Tryz.results105, go_sem]) rfl ?_
            rw [HRn.out]
            exact ⟨⟨t9, p9, rfl⟩, B5.out.alloc (by have := B5.out.size; omega) _⟩
          · have g2 : decide (hi < b) = false := decide_eq_false c2
            by_cases c3 : b < a
            · have g3 : decide (b < a) = true := decide_eq_true c3
              have HRn : Hid (RI = none) := Lib.hid (by rw [HR.out]; exact finI_none lo hi false a b sr sg 1 b (by simp) (Or.inr (Or.inr (Or.inl c3))))
              go_wp2_with fail
              refine (errNew_any _ _).mono ?_
              rintro e w9 ⟨⟨t9, p9, rfl⟩, rfl⟩
              go_wp2_with fail
              refine bodyPost_ret (v := .tuple #[.int .u64 0, .iface t9 p9]) (by simp [results, Tryz.results105, go_sem]) rfl ?_
              rw [HRn.out]
              exact ⟨⟨t9, p9, rfl⟩, B5.out.alloc (by have := B5.out.size; omega) _⟩
            · have g3 : decide (b < a) = false := decide_eq_false c3
              have HRs : Hid (RI = some ⟨a, b, 1, sr && decide (1 ≤ 1)⟩) := Lib.hid (by rw [HR.out]; exact finI_some lo hi false a b sr sg 1 b (by simp) (by omega))
              have HOR := or_starN (GB a b 1) (GB_lt a b 1) (sr)
              go_wp2_with (first | (go_at_call 106; refine (getBitsW_any a b 1 (by omega) (by omega) (by omega) (by omega) _).mono ?_; rintro e w9 ⟨rfl, rfl⟩))
              refine bodyPost_ret (v := .tuple #[.int .u64 ((GB a b 1 ||| starN (sr) : Nat)), .nilIface]) (by simp [results, Tryz.results105, go_sem]) rfl ?_
              rw [HRs.out]
              exact ⟨by unfold Item.bits starN; simp, B5.out⟩
      | [P1], HN1, HX5, HST, HRE =>
        have hn1 := HN1.out
        simp only [List.length_cons, List.length_nil, Nat.zero_add, Nat.reduceAdd] at hn1
        subst hn1
        have x1 := HX5.out P1 [] rfl
        have hSt := Lib.hid (HST.out P1 [] rfl)
        cases st with
        | none =>
          have HR : Hid (RI = none) := Lib.hid (by rw [HRE.out]; rfl)
          go_wp2_with fail
          refine (hSt.out _ HE5).mono ?_
          rintro e w6 ⟨⟨t6, p6, rfl⟩, hb6⟩
          have HB6 := Lib.hid hb6
          clear hb6
          go_wp2_with fail
          refine bodyPost_ret (v := .tuple #[.int .u64 0, .iface t6 p6]) (by simp [results, Tryz.results105, go_sem]) rfl ?_
          rw [HR.out]
          exact ⟨⟨t6, p6, rfl⟩, B5.out.trans (HB6.out.mono hsz)⟩
        | some q =>
          have hq9 := hst q rfl
          have HR : Hid (RI = finI lo hi true ⟨a, b, sr, sg⟩ q) := Lib.hid (by rw [HRE.out]; rfl)
          clear HX5 HST HRE hst
          cases sg
          · have hgt := Nat.lt_or_ge 1 q
            rcases hgt with hgt | hgt
            · have gq : decide ((1 : Int) < (q : Int)) = true := decide_eq_true (by omega)
              have q0 : ((q : Int) == 0) = false := by simp only [beq_eq_false_iff_ne]; omega
              by_cases c1 : a < lo
              · have g1 : decide (a < lo) = true := decide_eq_true c1
                have HRn : Hid (RI = none) := Lib.hid (by rw [HR.out]; exact finI_none lo hi true a b sr false q b (by simp) (Or.inl c1))
                go_wp2_with fail
                refine (hSt.out _ HE5).mono ?_
                rintro e w6 ⟨rfl, hb6⟩
                have d0 : w6.cell? ⟨w.heap.size, 0, none⟩ = some (.int .u64 lo) := cellB hb6 d0
                have d1 : w6.cell? ⟨w.heap.size, 1, none⟩ = some (.int .u64 hi) := cellB hb6 d1
                have B6 : Hid (Below w.heap.size w w6) := Lib.hid (B5.out.trans (hb6.mono hsz))
                clear hb6
                go_wp2_with fail
                refine (errNew_any _ _).mono ?_
                rintro e w9 ⟨⟨t9, p9, rfl⟩, rfl⟩
                go_wp2_with fail
                refine bodyPost_ret (v := .tuple #[.int .u64 0, .iface t9 p9]) (by simp [results, Tryz.results105, go_sem]) rfl ?_
                rw [HRn.out]
                exact ⟨⟨t9, p9, rfl⟩, B6.out.alloc (by have := B6.out.size; omega) _⟩
              · have g1 : decide (a < lo) = false := decide_eq_false c1
                by_cases c2 : hi < b
                · have g2 : decide (hi < b) = true := decide_eq_true c2
                  have HRn : Hid (RI = none) := Lib.hid (by rw [HR.out]; exact finI_none lo hi true a b sr false q b (by simp) (Or.inr (Or.inl c2)))
                  go_wp2_with fail
                  refine (hSt.out _ HE5).mono ?_
                  rintro e w6 ⟨rfl, hb6⟩
                  have d0 : w6.cell? ⟨w.heap.size, 0, none⟩ = some (.int .u64 lo) := cellB hb6 d0
                  have d1 : w6.cell? ⟨w.heap.size, 1, none⟩ = some (.int .u64 hi) := cellB hb6 d1
                  have B6 : Hid (Below w.heap.size w w6) := Lib.hid (B5.out.trans (hb6.mono hsz))
                  clear hb6
                  go_wp2_with fail
                  refine (errNew_any _ _).mono ?_
                  rintro e w9 ⟨⟨t9, p9, rfl⟩, rfl⟩
                  go_wp2_with fail
                  refine bodyPost_ret (v := .tuple #[.int .u64 0, .iface t9 p9]) (by simp [results, Tryz.results105, go_sem]) rfl ?_
                  rw [HRn.out]
                  exact ⟨⟨t9, p9, rfl⟩, B6.out.alloc (by have := B6.out.size; omega) _⟩
                · have g2 : decide (hi < b) = false := decide_eq_false c2
                  by_cases c3 : b < a
                  · have g3 : decide (b < a) = true := decide_eq_true c3
                    have HRn : Hid (RI = none) := Lib.hid (by rw [HR.out]; exact finI_none lo hi true a b sr false q b (by simp) (Or.inr (Or.inr (Or.inl c3))))
                    go_wp2_with fail
                    refine (hSt.out _ HE5).mono ?_
                    rintro e w6 ⟨rfl, hb6⟩
                    have d0 : w6.cell? ⟨w.heap.size, 0, none⟩ = some (.int .u64 lo) := cellB hb6 d0
                    have d1 : w6.cell? ⟨w.heap.size, 1, none⟩ = some (.int .u64 hi) := cellB hb6 d1
                    have B6 : Hid (Below w.heap.size w w6) := Lib.hid (B5.out.trans (hb6.mono hsz))
                    clear hb6
                    go_wp2_with fail
                    refine (errNew_any _ _).mono ?_
                    rintro e w9 ⟨⟨t9, p9, rfl⟩, rfl⟩
                    go_wp2_with fail
                    refine bodyPost_ret (v := .tuple #[.int .u64 0, .iface t9 p9]) (by simp [results, Tryz.results105, go_sem]) rfl ?_
                    rw [HRn.out]
                    exact ⟨⟨t9, p9, rfl⟩, B6.out.alloc (by have := B6.out.size; omega) _⟩
                  · have g3 : decide (b < a) = false := decide_eq_false c3
                    have HRs : Hid (RI = some ⟨a, b, q, sr && decide (q ≤ 1)⟩) := Lib.hid (by rw [HR.out]; exact finI_some lo hi true a b sr false q b (by simp) (by omega))
                    have HOR : bits .or .u64 ((GB a b q : Nat) : Int) 0 = ((GB a b q ||| starN false : Nat) : Int) := or_starN (GB a b q) (GB_lt a b q) false
                    go_wp2_with fail
                    refine (hSt.out _ HE5).mono ?_
                    rintro e w6 ⟨rfl, hb6⟩
                    have d0 : w6.cell? ⟨w.heap.size, 0, none⟩ = some (.int .u64 lo) := cellB hb6 d0
                    have d1 : w6.cell? ⟨w.heap.size, 1, none⟩ = some (.int .u64 hi) := cellB hb6 d1
                    have B6 : Hid (Below w.heap.size w w6) := Lib.hid (B5.out.trans (hb6.mono hsz))
                    clear hb6
                    go_wp2_with (first | (go_at_call 106; refine (getBitsW_any a b q (by omega) (by omega) (by omega) (by omega) _).mono ?_; rintro e w9 ⟨rfl, rfl⟩))
                    refine bodyPost_ret (v := .tuple #[.int .u64 ((GB a b q ||| starN (false) : Nat)), .nilIface]) (by simp [results, Tryz.results105, go_sem]) rfl ?_
                    rw [HRs.out]
                    exact ⟨by have hd : decide (q ≤ 1) = false := decide_eq_false (by omega)
                              unfold Item.bits starN; simp [hd], B6.out⟩
            · have gq : decide ((1 : Int) < (q : Int)) = false := decide_eq_false (by omega)
              by_cases c1 : a < lo
              · have g1 : decide (a < lo) = true := decide_eq_true c1
                have HRn : Hid (RI = none) := Lib.hid (by rw [HR.out]; exact finI_none lo hi true a b sr false q b (by simp) (Or.inl c1))
                go_wp2_with fail
                refine (hSt.out _ HE5).mono ?_
                rintro e w6 ⟨rfl, hb6⟩
                have d0 : w6.cell? ⟨w.heap.size, 0, none⟩ = some (.int .u64 lo) := cellB hb6 d0
                have d1 : w6.cell? ⟨w.heap.size, 1, none⟩ = some (.int .u64 hi) := cellB hb6 d1
                have B6 : Hid (Below w.heap.size w w6) := Lib.hid (B5.out.trans (hb6.mono hsz))
                clear hb6
                go_wp2_with fail
                refine (errNew_any _ _).mono ?_
                rintro e w9 ⟨⟨t9, p9, rfl⟩, rfl⟩
                go_wp2_with fail
                refine bodyPost_ret (v := .tuple #[.int .u64 0, .iface t9 p9]) (by simp [results, Tryz.results105, go_sem]) rfl ?_
                rw [HRn.out]
                exact ⟨⟨t9, p9, rfl⟩, B6.out.alloc (by have := B6.out.size; omega) _⟩
              · have g1 : decide (a < lo) = false := decide_eq_false c1
                by_cases c2 : hi < b
                · have g2 : decide (hi < b) = true := decide_eq_true c2
                  have HRn : Hid (RI = none) := Lib.hid (by rw [HR.out]; exact finI_none lo hi true a b sr false q b (by simp) (Or.inr (Or.inl c2)))
                  go_wp2_with fail
                  refine (hSt.out _ HE5).mono ?_
                  rintro e w6 ⟨rfl, hb6⟩
                  have d0 : w6.cell? ⟨w.heap.size, 0, none⟩ = some (.int .u64 lo) := cellB hb6 d0
                  have d1 : w6.cell? ⟨w.heap.size, 1, none⟩ = some (.int .u64 hi) := cellB hb6 d1
                  have B6 : Hid (Below w.heap.size w w6) := Lib.hid (B5.out.trans (hb6.mono hsz))
                  clear hb6
                  go_wp2_with fail
                  refine (errNew_any _ _).mono ?_
                  rintro e w9 ⟨⟨t9, p9, rfl⟩, rfl⟩
                  go_wp2_with fail
                  refine bodyPost_ret (v := .tuple #[.int .u64 0, .iface t9 p9]) (by simp [results, Tryz.results105, go_sem]) rfl ?_
                  rw [HRn.out]
                  exact ⟨⟨t9, p9, rfl⟩, B6.out.alloc (by have := B6.out.size; omega) _⟩
                · have g2 : decide (hi < b) = false := decide_eq_false c2
                  by_cases c3 : b < a
                  · have g3 : decide (b < a) = true := decide_eq_true c3
                    have HRn : Hid (RI = none) := Lib.hid (by rw [HR.out]; exact finI_none lo hi true a b sr false q b (by simp) (Or.inr (Or.inr (Or.inl c3))))
                    go_wp2_with fail
                    refine (hSt.out _ HE5).mono ?_
                    rintro e w6 ⟨rfl, hb6⟩
                    have d0 : w6.cell? ⟨w.heap.size, 0, none⟩ = some (.int .u64 lo) := cellB hb6 d0
                    have d1 : w6.cell? ⟨w.heap.size, 1, none⟩ = some (.int .u64 hi) := cellB hb6 d1
                    have B6 : Hid (Below w.heap.size w w6) := Lib.hid (B5.out.trans (hb6.mono hsz))
                    clear hb6
                    go_wp2_with fail
                    refine (errNew_any _ _).mono ?_
                    rintro e w9 ⟨⟨t9, p9, rfl⟩, rfl⟩
                    go_wp2_with fail
                    refine bodyPost_ret (v := .tuple #[.int .u64 0, .iface t9 p9]) (by simp [results, Tryz.results105, go_sem]) rfl ?_
                    rw [HRn.out]
                    exact ⟨⟨t9, p9, rfl⟩, B6.out.alloc (by have := B6.out.size; omega) _⟩
                  · have g3 : decide (b < a) = false := decide_eq_false c3
                    by_cases c4 : q = 0
                    · have q0 : ((q : Int) == 0) = true := by subst c4; rfl
                      have HRn : Hid (RI = none) := Lib.hid (by rw [HR.out]; exact finI_none lo hi true a b sr false q b (by simp) (Or.inr (Or.inr (Or.inr c4))))
                      clear c4
                      go_wp2_with fail
                      refine (hSt.out _ HE5).mono ?_
                      rintro e w6 ⟨rfl, hb6⟩
                      have d0 : w6.cell? ⟨w.heap.size, 0, none⟩ = some (.int .u64 lo) := cellB hb6 d0
                      have d1 : w6.cell? ⟨w.heap.size, 1, none⟩ = some (.int .u64 hi) := cellB hb6 d1
                      have B6 : Hid (Below w.heap.size w w6) := Lib.hid (B5.out.trans (hb6.mono hsz))
                      clear hb6
                      go_wp2_with fail
                      refine (errNew_any _ _).mono ?_
                      rintro e w9 ⟨⟨t9, p9, rfl⟩, rfl⟩
                      go_wp2_with fail
                      refine bodyPost_ret (v := .tuple #[.int .u64 0, .iface t9 p9]) (by simp [results, Tryz.results105, go_sem]) rfl ?_
                      rw [HRn.out]
                      exact ⟨⟨t9, p9, rfl⟩, B6.out.alloc (by have := B6.out.size; omega) _⟩
                    · have q0 : ((q : Int) == 0) = false := by simp only [beq_eq_false_iff_ne]; omega
                      have HRs : Hid (RI = some ⟨a, b, q, sr && decide (q ≤ 1)⟩) := Lib.hid (by rw [HR.out]; exact finI_some lo hi true a b sr false q b (by simp) (by omega))
                      have HOR := or_starN (GB a b q) (GB_lt a b q) (sr)
                      go_wp2_with fail
                      refine (hSt.out _ HE5).mono ?_
                      rintro e w6 ⟨rfl, hb6⟩
                      have d0 : w6.cell? ⟨w.heap.size, 0, none⟩ = some (.int .u64 lo) := cellB hb6 d0
                      have d1 : w6.cell? ⟨w.heap.size, 1, none⟩ = some (.int .u64 hi) := cellB hb6 d1
                      have B6 : Hid (Below w.heap.size w w6) := Lib.hid (B5.out.trans (hb6.mono hsz))
                      clear hb6
                      go_wp2_with (first | (go_at_call 106; refine (getBitsW_any a b q (by omega) (by omega) (by omega) (by omega) _).mono ?_; rintro e w9 ⟨rfl, rfl⟩))
                      refine bodyPost_ret (v := .tuple #[.int .u64 ((GB a b q ||| starN (sr) : Nat)), .nilIface]) (by simp [results, Tryz.results105, go_sem]) rfl ?_
                      rw [HRs.out]
                      exact ⟨by have hd : decide (q ≤ 1) = true := decide_eq_true (by omega)
                                unfold Item.bits starN; simp [hd], B6.out⟩
          · have hgt := Nat.lt_or_ge 1 q
            rcases hgt with hgt | hgt
            · have gq : decide ((1 : Int) < (q : Int)) = true := decide_eq_true (by omega)
              have q0 : ((q : Int) == 0) = false := by simp only [beq_eq_false_iff_ne]; omega
              by_cases c1 : a < lo
              · have g1 : decide (a < lo) = true := decide_eq_true c1
                have HRn : Hid (RI = none) := Lib.hid (by rw [HR.out]; exact finI_none lo hi true a b sr true q hi (by simp) (Or.inl c1))
                go_wp2_with fail
                refine (hSt.out _ HE5).mono ?_
                rintro e w6 ⟨rfl, hb6⟩
                have d0 : w6.cell? ⟨w.heap.size, 0, none⟩ = some (.int .u64 lo) := cellB hb6 d0
                have d1 : w6.cell? ⟨w.heap.size, 1, none⟩ = some (.int .u64 hi) := cellB hb6 d1
                have B6 : Hid (Below w.heap.size w w6) := Lib.hid (B5.out.trans (hb6.mono hsz))
                clear hb6
                go_wp2_with fail
                refine (errNew_any _ _).mono ?_
                rintro e w9 ⟨⟨t9, p9, rfl⟩, rfl⟩
                go_wp2_with fail
                refine bodyPost_ret (v := .tuple #[.int .u64 0, .iface t9 p9]) (by simp [results, Tryz.results105, go_sem]) rfl ?_
                rw [HRn.out]
                exact ⟨⟨t9, p9, rfl⟩, B6.out.alloc (by have := B6.out.size; omega) _⟩
              · have g1 : decide (a < lo) = false := decide_eq_false c1
                by_cases c2 : hi < hi
                · have g2 : decide (hi < hi) = true := decide_eq_true c2
                  exact absurd c2 (Nat.lt_irrefl _)
                · have g2 : decide (hi < hi) = false := decide_eq_false c2
                  by_cases c3 : hi < a
                  · have g3 : decide (hi < a) = true := decide_eq_true c3
                    have HRn : Hid (RI = none) := Lib.hid (by rw [HR.out]; exact finI_none lo hi true a b sr true q hi (by simp) (Or.inr (Or.inr (Or.inl c3))))
                    go_wp2_with fail
                    refine (hSt.out _ HE5).mono ?_
                    rintro e w6 ⟨rfl, hb6⟩
                    have d0 : w6.cell? ⟨w.heap.size, 0, none⟩ = some (.int .u64 lo) := cellB hb6 d0
                    have d1 : w6.cell? ⟨w.heap.size, 1, none⟩ = some (.int .u64 hi) := cellB hb6 d1
                    have B6 : Hid (Below w.heap.size w w6) := Lib.hid (B5.out.trans (hb6.mono hsz))
                    clear hb6
                    go_wp2_with fail
                    refine (errNew_any _ _).mono ?_
                    rintro e w9 ⟨⟨t9, p9, rfl⟩, rfl⟩
                    go_wp2_with fail
                    refine bodyPost_ret (v := .tuple #[.int .u64 0, .iface t9 p9]) (by simp [results, Tryz.results105, go_sem]) rfl ?_
                    rw [HRn.out]
                    exact ⟨⟨t9, p9, rfl⟩, B6.out.alloc (by have := B6.out.size; omega) _⟩
                  · have g3 : decide (hi < a) = false := decide_eq_false c3
                    have HRs : Hid (RI = some ⟨a, hi, q, sr && decide (q ≤ 1)⟩) := Lib.hid (by rw [HR.out]; exact finI_some lo hi true a b sr true q hi (by simp) (by omega))
                    have HOR : bits .or .u64 ((GB a hi q : Nat) : Int) 0 = ((GB a hi q ||| starN false : Nat) : Int) := or_starN (GB a hi q) (GB_lt a hi q) false
                    go_wp2_with fail
                    refine (hSt.out _ HE5).mono ?_
                    rintro e w6 ⟨rfl, hb6⟩
                    have d0 : w6.cell? ⟨w.heap.size, 0, none⟩ = some (.int .u64 lo) := cellB hb6 d0
                    have d1 : w6.cell? ⟨w.heap.size, 1, none⟩ = some (.int .u64 hi) := cellB hb6 d1
                    have B6 : Hid (Below w.heap.size w w6) := Lib.hid (B5.out.trans (hb6.mono hsz))
                    clear hb6
                    go_wp2_with (first | (go_at_call 106; refine (getBitsW_any a hi q (by omega) (by omega) (by omega) (by omega) _).mono ?_; rintro e w9 ⟨rfl, rfl⟩))
                    refine bodyPost_ret (v := .tuple #[.int .u64 ((GB a hi q ||| starN (false) : Nat)), .nilIface]) (by simp [results, Tryz.results105, go_sem]) rfl ?_
                    rw [HRs.out]
                    exact ⟨by have hd : decide (q ≤ 1) = false := decide_eq_false (by omega)
                              unfold Item.bits starN; simp [hd], B6.out⟩
            · have gq : decide ((1 : Int) < (q : Int)) = false := decide_eq_false (by omega)
              by_cases c1 : a < lo
              · have g1 : decide (a < lo) = true := decide_eq_true c1
                have HRn : Hid (RI = none) := Lib.hid (by rw [HR.out]; exact finI_none lo hi true a b sr true q hi (by simp) (Or.inl c1))
                go_wp2_with fail
                refine (hSt.out _ HE5).mono ?_
                rintro e w6 ⟨rfl, hb6⟩
                have d0 : w6.cell? ⟨w.heap.size, 0, none⟩ = some (.int .u64 lo) := cellB hb6 d0
                have d1 : w6.cell? ⟨w.heap.size, 1, none⟩ = some (.int .u64 hi) := cellB hb6 d1
                have B6 : Hid (Below w.heap.size w w6) := Lib.hid (B5.out.trans (hb6.mono hsz))
                clear hb6
                go_wp2_with fail
                refine (errNew_any _ _).mono ?_
                rintro e w9 ⟨⟨t9, p9, rfl⟩, rfl⟩
                go_wp2_with fail
                refine bodyPost_ret (v := .tuple #[.int .u64 0, .iface t9 p9]) (by simp [results, Tryz.results105, go_sem]) rfl ?_
                rw [HRn.out]
                exact ⟨⟨t9, p9, rfl⟩, B6.out.alloc (by have := B6.out.size; omega) _⟩
              · have g1 : decide (a < lo) = false := decide_eq_false c1
                by_cases c2 : hi < hi
                · have g2 : decide (hi < hi) = true := decide_eq_true c2
                  exact absurd c2 (Nat.lt_irrefl _)
                · have g2 : decide (hi < hi) = false := decide_eq_false c2
                  by_cases c3 : hi < a
                  · have g3 : decide (hi < a) = true := decide_eq_true c3
                    have HRn : Hid (RI = none) := Lib.hid (by rw [HR.out]; exact finI_none lo hi true a b sr true q hi (by simp) (Or.inr (Or.inr (Or.inl c3))))
                    go_wp2_with fail
                    refine (hSt.out _ HE5).mono ?_
                    rintro e w6 ⟨rfl, hb6⟩
                    have d0 : w6.cell? ⟨w.heap.size, 0, none⟩ = some (.int .u64 lo) := cellB hb6 d0
                    have d1 : w6.cell? ⟨w.heap.size, 1, none⟩ = some (.int .u64 hi) := cellB hb6 d1
                    have B6 : Hid (Below w.heap.size w w6) := Lib.hid (B5.out.trans (hb6.mono hsz))
                    clear hb6
                    go_wp2_with fail
                    refine (errNew_any _ _).mono ?_
                    rintro e w9 ⟨⟨t9, p9, rfl⟩, rfl⟩
                    go_wp2_with fail
                    refine bodyPost_ret (v := .tuple #[.int .u64 0, .iface t9 p9]) (by simp [results, Tryz.results105, go_sem]) rfl ?_
                    rw [HRn.out]
                    exact ⟨⟨t9, p9, rfl⟩, B6.out.alloc (by have := B6.out.size; omega) _⟩
                  · have g3 : decide (hi < a) = false := decide_eq_false c3
                    by_cases c4 : q = 0
                    · have q0 : ((q : Int) == 0) = true := by subst c4; rfl
                      have HRn : Hid (RI = none) := Lib.hid (by rw [HR.out]; exact finI_none lo hi true a b sr true q hi (by simp) (Or.inr (Or.inr (Or.inr c4))))
                      clear c4
                      go_wp2_with fail
                      refine (hSt.out _ HE5).mono ?_
                      rintro e w6 ⟨rfl, hb6⟩
                      have d0 : w6.cell? ⟨w.heap.size, 0, none⟩ = some (.int .u64 lo) := cellB hb6 d0
                      have d1 : w6.cell? ⟨w.heap.size, 1, none⟩ = some (.int .u64 hi) := cellB hb6 d1
                      have B6 : Hid (Below w.heap.size w w6) := Lib.hid (B5.out.trans (hb6.mono hsz))
                      clear hb6
                      go_wp2_with fail
                      refine (errNew_any _ _).mono ?_
                      rintro e w9 ⟨⟨t9, p9, rfl⟩, rfl⟩
                      go_wp2_with fail
                      refine bodyPost_ret (v := .tuple #[.int .u64 0, .iface t9 p9]) (by simp [results, Tryz.results105, go_sem]) rfl ?_
                      rw [HRn.out]
                      exact ⟨⟨t9, p9, rfl⟩, B6.out.alloc (by have := B6.out.size; omega) _⟩
                    · have q0 : ((q : Int) == 0) = false := by simp only [beq_eq_false_iff_ne]; omega
                      have HRs : Hid (RI = some ⟨a, hi, q, sr && decide (q ≤ 1)⟩) := Lib.hid (by rw [HR.out]; exact finI_some lo hi true a b sr true q hi (by simp) (by omega))
                      have HOR := or_starN (GB a hi q) (GB_lt a hi q) (sr)
                      go_wp2_with fail
                      refine (hSt.out _ HE5).mono ?_
                      rintro e w6 ⟨rfl, hb6⟩
                      have d0 : w6.cell? ⟨w.heap.size, 0, none⟩ = some (.int .u64 lo) := cellB hb6 d0
                      have d1 : w6.cell? ⟨w.heap.size, 1, none⟩ = some (.int .u64 hi) := cellB hb6 d1
                      have B6 : Hid (Below w.heap.size w w6) := Lib.hid (B5.out.trans (hb6.mono hsz))
                      clear hb6
                      go_wp2_with (first | (go_at_call 106; refine (getBitsW_any a hi q (by omega) (by omega) (by omega) (by omega) _).mono ?_; rintro e w9 ⟨rfl, rfl⟩))
                      refine bodyPost_ret (v := .tuple #[.int .u64 ((GB a hi q ||| starN (sr) : Nat)), .nilIface]) (by simp [results, Tryz.results105, go_sem]) rfl ?_
                      rw [HRs.out]
                      exact ⟨by have hd : decide (q ≤ 1) = true := decide_eq_true (by omega)
                                unfold Item.bits starN; simp [hd], B6.out⟩
      | P1 :: P2 :: PR, HN1, HX5, HST, HRE =>
        have HR : Hid (RI = none) := Lib.hid (by rw [HRE.out]; rfl)
        have q1 : ((n1 : Int) == 1) = false := by
          have := HN1.out
          simp only [List.length_cons] at this
          simp only [beq_eq_false_iff_ne]; omega
        have q2 : ((n1 : Int) == 2) = false := by
          have := HN1.out
          simp only [List.length_cons] at this
          simp only [beq_eq_false_iff_ne]; omega
        go_wp2_with fail
        refine (errNew_any _ _).mono ?_
        rintro e w9 ⟨⟨t9, p9, rfl⟩, rfl⟩
        go_wp2_with fail
        refine bodyPost_ret (v := .tuple #[.int .u64 0, .iface t9 p9]) (by simp [results, Tryz.results105, go_sem]) rfl ?_
        rw [HR.out]
        exact ⟨⟨t9, p9, rfl⟩, B5.out.alloc (by omega) _⟩
end Go.Proofs.YtkhggefbkhdimaaGreatDoor
