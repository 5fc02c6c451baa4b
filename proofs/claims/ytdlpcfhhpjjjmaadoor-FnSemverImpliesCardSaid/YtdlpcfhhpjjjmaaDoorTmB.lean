/- Whether terms fit, and whether they are good ones. laws.scGood, laws.scList. -/
import Derived.Test.YtdlpcfhhpjjjmaaDoorTmA
import Derived.Test.YtdlpcfhhpjjjmaaDoorGoodTermA
import Derived.Test.YtdlpcfhhpjjjmaaDoorGoodTermB
import Derived.Test.YtdlpcfhhpjjjmaaDoorGoodTermC
namespace Go.Proofs.YtdlpcfhhpjjjmaaDoor
open Go.RowKit
set_option linter.unusedVariables false
set_option linter.unusedSimpArgs false

theorem goodTm_any (o g a b c : Int) (p : ByteArray) (hp : p.size ≤ 2147483653) (w : World) :
    Calls Tryd.prog 31 #[.agg (termC o g a b c p)] w (GoodPost (TermOk o g a b c p) w) := by
  by_cases h1 : g < 0
  · exact goodTerm_lo o g a b c p h1 w
  · by_cases h2 : 3 < g
    · exact goodTerm_hi o g a b c p h2 w
    · have h3 : g = 0 ∨ g = 1 ∨ g = 2 ∨ g = 3 := by omega
      rcases h3 with rfl | rfl | rfl | rfl
      · exact goodTerm_0 o a b c p hp w
      · exact goodTerm_1 o a b c p hp w
      · exact goodTerm_2 o a b c p hp w
      · exact goodTerm_3 o a b c p hp w

theorem fits13_g (o g a b c : Int) (p : ByteArray) (w : World) :
    Calls Tryd.prog 25 #[.agg (termC o g a b c p)] w (GoodPost (p.size ≤ 2147483647) w) := by
  by_cases h1 : 2147483647 < p.size
  · have h2 : (2147483647 < (p.size : Int)) = True := eq_true (by omega)
    go_enter Tryd.func25, Tryd.ntmps25
    go_wp2_with fail
    go_ret
    exact ⟨_, rfl, (by repeat (first | (with_reducible assumption) | (with_reducible exact Below.refl _ _) | (with_reducible refine Below.alloc ?_ (by first | omega | (simp <;> omega)) _))), fun h => by cases h⟩
  · have h2 : (2147483647 < (p.size : Int)) = False := eq_false (by omega)
    go_enter Tryd.func25, Tryd.ntmps25
    go_wp2_with fail
    go_ret
    exact ⟨_, rfl, (by repeat (first | (with_reducible assumption) | (with_reducible exact Below.refl _ _) | (with_reducible refine Below.alloc ?_ (by first | omega | (simp <;> omega)) _))), fun h => by omega⟩

def FitL (l : List Tm) : Prop := l.length ≤ 2147483647 ∧ ∀ t ∈ l, t.2.2.2.2.2.size ≤ 2147483647
def FitC (c : List (List Tm)) : Prop := c.length ≤ 2147483647 ∧ ∀ l ∈ c, FitL l
/-- What is known of the first k elements. -/
def UpTo {α : Type} (f : α → Prop) (l : List α) (k : Nat) : Prop := ∀ (i : Nat) (x : α), i < k → l[i]? = some x → f x
theorem UpTo.zero {α : Type} (f : α → Prop) (l : List α) : UpTo f l 0 := fun i x h => by omega
theorem UpTo.step {α : Type} {f : α → Prop} {l : List α} {k : Nat} (h : UpTo f l k) (x : α) (hx : l[k]? = some x) (hf : f x) : UpTo f l (k + 1) := fun i y hi hy => by
  by_cases e : i < k
  · exact h i y e hy
  · obtain rfl : i = k := by omega
    rw [hx] at hy; cases hy; exact hf
theorem UpTo.all {α : Type} {f : α → Prop} {l : List α} {k : Nat} (h : UpTo f l k) (hk : ¬ k < l.length) : ∀ x ∈ l, f x := fun x hx => by
  obtain ⟨i, hi⟩ := List.getElem?_of_mem hx
  exact h i x (by have := (List.getElem?_eq_some_iff.1 hi).1; omega) hi

set_option maxRecDepth 100000 in
set_option maxHeartbeats 2000000 in
theorem fits12_any (l : List Tm) (v : Value) (w : World) (hc : Hid (SlOf RTm 6 w v l)) :
    Calls Tryd.prog 49 #[v] w (GoodPost (FitL l) w) := by
  obtain ⟨ao, cap, rfl, hx⟩ := hc.out
  have HX := Lib.hid hx
  clear hx hc
  by_cases h1 : 2147483647 < l.length
  · have h2 : (2147483647 < (l.length : Int)) = True := eq_true (by omega)
    go_enter Tryd.func49, Tryd.ntmps49
    go_wp2_with fail
    go_ret
    exact ⟨_, rfl, Below.refl _ _, fun h => by cases h⟩
  · have h2 : (2147483647 < (l.length : Int)) = False := eq_false (by omega)
    go_enter Tryd.func49, Tryd.ntmps49
    go_wp2_with fail
    go_loopw [10] (fun i wr => ∃ k : Nat, k ≤ l.length ∧ i = .int .i64 k ∧ Hid (UpTo (fun t : Tm => t.2.2.2.2.2.size ≤ 2147483647) l k) ∧ Below w.heap.size w wr) (fun i _ => l.length - (intOf i).toNat)
    case atStart => exact ⟨0, Nat.zero_le _, rfl, UpTo.zero _ _, Below.refl _ _⟩
    case round =>
      obtain ⟨k, hk, rfl, hrec, hb⟩ := hrel
      by_cases hkL : k < l.length
      · obtain ⟨t, ht⟩ : ∃ t, l[k]? = some t := ⟨l[k], List.getElem?_eq_getElem hkL⟩
        obtain ⟨ab, aoff, us, rfl, hz, hcell, hu⟩ := HX.out k t ht
        have HT := Lib.hid ht
        clear ht hz
        obtain ⟨o, g, a, b, d, p⟩ := t
        unfold RTm at hu
        subst hu
        have k0 := cellBS hb (hcell 0 _ rfl)
        have k1 := cellBS hb (hcell 1 _ rfl)
        have k2 := cellBS hb (hcell 2 _ rfl)
        have k3 := cellBS hb (hcell 3 _ rfl)
        have k4 := cellBS hb (hcell 4 _ rfl)
        have k5 := cellBS hb (hcell 5 _ rfl)
        simp only [Nat.add_zero] at k0
        clear hcell
        go_wp2_with fail
        refine (fits13_g _ _ _ _ _ _ _).mono ?_
        rintro e w1 ⟨r, rfl, hb1, hr⟩
        have bw := (hb.alloc hb.size _).trans (hb1.mono (Nat.le_trans hb.size (by simp)))
        cases r with
        | false =>
          go_wp2_with fail
          go_ret
          exact ⟨_, rfl, bw, fun h => by cases h⟩
        | true =>
          have HN := Lib.hid (hrec.out.step _ HT.out (hr rfl))
          clear hrec hr
          go_wp2_with fail
          go_roundw
          case rel => exact ⟨k + 1, by omega, by go_num, HN, bw⟩
          case measure => simp [intOf]; omega
      · have HN : Hid (FitL l) := ⟨by omega, hrec.out.all hkL⟩
        go_wp2_with fail
        go_ret
        exact ⟨_, rfl, hb, fun _ => HN⟩

set_option maxRecDepth 100000 in
set_option maxHeartbeats 2000000 in
theorem fits11_any (c : List (List Tm)) (v : Value) (w : World) (hc : Hid (SlOf RTms 1 w v c)) :
    Calls Tryd.prog 42 #[v] w (GoodPost (FitC c) w) := by
  obtain ⟨ao, cap, rfl, hx⟩ := hc.out
  have HX := Lib.hid hx
  clear hx hc
  by_cases h1 : 2147483647 < c.length
  · have h2 : (2147483647 < (c.length : Int)) = True := eq_true (by omega)
    go_enter Tryd.func42, Tryd.ntmps42
    go_wp2_with fail
    go_ret
    exact ⟨_, rfl, Below.refl _ _, fun h => by cases h⟩
  · have h2 : (2147483647 < (c.length : Int)) = False := eq_false (by omega)
    go_enter Tryd.func42, Tryd.ntmps42
    go_wp2_with fail
    go_loopw [10] (fun i wr => ∃ k : Nat, k ≤ c.length ∧ i = .int .i64 k ∧ Hid (UpTo FitL c k) ∧ Below w.heap.size w wr) (fun i _ => c.length - (intOf i).toNat)
    case atStart => exact ⟨0, Nat.zero_le _, rfl, UpTo.zero _ _, Below.refl _ _⟩
    case round =>
      obtain ⟨k, hk, rfl, hrec, hb⟩ := hrel
      by_cases hkL : k < c.length
      · obtain ⟨l, hl⟩ : ∃ l, c[k]? = some l := ⟨c[k], List.getElem?_eq_getElem hkL⟩
        obtain ⟨ab, aoff, us, rfl, hz, hcell, u, rfl, hu⟩ := HX.out k l hl
        have c0 := cellBS hb (hcell 0 u rfl)
        have HU := Lib.hid (hu.below RTm.mono hb)
        obtain ⟨ao2, cap2, rfl⟩ := hu.len
        have HL := Lib.hid hl
        clear hcell hl hu hz
        simp only [Nat.mul_one, Nat.add_zero] at c0
        go_wp2_with fail
        refine (fits12_any l _ _ HU).mono ?_
        rintro e w1 ⟨r, rfl, hb1, hr⟩
        have bw := hb.trans (hb1.mono hb.size)
        cases r with
        | false =>
          go_wp2_with fail
          go_ret
          exact ⟨_, rfl, bw, fun h => by cases h⟩
        | true =>
          have HN := Lib.hid (hrec.out.step _ HL.out (hr rfl))
          clear hrec hr
          go_wp2_with fail
          go_roundw
          case rel => exact ⟨k + 1, by omega, by go_num, HN, bw⟩
          case measure => simp [intOf]; omega
      · have HN : Hid (FitC c) := ⟨by omega, hrec.out.all hkL⟩
        go_wp2_with fail
        go_ret
        exact ⟨_, rfl, hb, fun _ => HN⟩

def OkT (t : Tm) : Prop := TermOk t.1 t.2.1 t.2.2.1 t.2.2.2.1 t.2.2.2.2.1 t.2.2.2.2.2
def OkL (most : Nat) (l : List Tm) : Prop := l ≠ [] ∧ l.length ≤ most ∧ ∀ t ∈ l, OkT t
def OkC (most : Nat) (c : List (List Tm)) : Prop := c ≠ [] ∧ c.length ≤ most ∧ ∀ l ∈ c, OkL most l

set_option maxRecDepth 100000 in
set_option maxHeartbeats 4000000 in
theorem goodTerms_any (c : List (List Tm)) (v : Value) (most : Nat) (hm : most ≤ 1000) (hF : Hid (FitC c)) (w : World) (hc : Hid (SlOf RTms 1 w v c)) :
    Calls Tryd.prog 79 #[v, .int .i64 most] w (GoodPost (OkC most c) w) := by
  obtain ⟨ao, cap, rfl, hx⟩ := hc.out
  have HX := Lib.hid hx
  have hcl := hF.out.1
  clear hx hc
  go_enter Tryd.func79, Tryd.ntmps79
  go_wp2_with fail
  go_loopw [5, 12] (fun n i wr => ∃ k s : Nat, k ≤ c.length ∧ i = .int .i64 k ∧ n = .int .i64 s ∧ k ≤ s ∧ s ≤ most ∧ (k = 0 → s = 0) ∧ Hid (UpTo (OkL most) c k) ∧ Below w.heap.size w wr) (fun _ i _ => c.length - (intOf i).toNat)
  case atStart => exact ⟨0, 0, Nat.zero_le _, rfl, rfl, Nat.le_refl _, Nat.zero_le _, fun _ => rfl, UpTo.zero _ _, Below.refl _ _⟩
  case round =>
    obtain ⟨k, s, hk, rfl, rfl, hks, hsm, hk0, hrec, hb⟩ := hrel
    by_cases hkL : k < c.length
    · obtain ⟨l, hl⟩ : ∃ l, c[k]? = some l := ⟨c[k], List.getElem?_eq_getElem hkL⟩
      obtain ⟨ab, aoff, us, rfl, hz, hcell, u, rfl, hu⟩ := HX.out k l hl
      have c0 := cellBS hb (hcell 0 u rfl)
      obtain ⟨ao2, cap2, rfl, hx2⟩ := hu.below RTm.mono hb
      have HX2 := Lib.hid hx2
      have HL := Lib.hid hl
      have HFL := Lib.hid (hF.out.2 l (List.mem_of_getElem? hl))
      have hll := HFL.out.1
      clear hcell hl hu hz hx2
      simp only [Nat.mul_one, Nat.add_zero] at c0
      go_wp2_with fail
      go_loopw [18] (fun i wi => ∃ m : Nat, m ≤ l.length ∧ i = .int .i64 m ∧ Hid (UpTo OkT l m) ∧ Below wr.heap.size wr wi) (fun i _ => l.length - (intOf i).toNat)
      case atStart => exact ⟨0, Nat.zero_le _, rfl, UpTo.zero _ _, Below.refl _ _⟩
      case round =>
        obtain ⟨m, hm2, rfl, hin, hbi⟩ := hrel
        have bw := hb.trans (hbi.mono hb.size)
        by_cases hmL : m < l.length
        · obtain ⟨t, ht⟩ : ∃ t, l[m]? = some t := ⟨l[m], List.getElem?_eq_getElem hmL⟩
          obtain ⟨ab2, aoff2, us2, rfl, hz2, hcell2, hu2⟩ := HX2.out m t ht
          have HT := Lib.hid ht
          have hps := HFL.out.2 t (List.mem_of_getElem? ht)
          clear ht hz2
          obtain ⟨o, g, a, b, d, p⟩ := t
          unfold RTm at hu2
          subst hu2
          have k0 := cellBS hbi (hcell2 0 _ rfl)
          have k1 := cellBS hbi (hcell2 1 _ rfl)
          have k2 := cellBS hbi (hcell2 2 _ rfl)
          have k3 := cellBS hbi (hcell2 3 _ rfl)
          have k4 := cellBS hbi (hcell2 4 _ rfl)
          have k5 := cellBS hbi (hcell2 5 _ rfl)
          simp only [Nat.add_zero] at k0
          clear hcell2
          go_wp2_with fail
          refine (goodTm_any _ _ _ _ _ _ (by have : p.size ≤ 2147483647 := hps; omega) _).mono ?_
          rintro e w1 ⟨r, rfl, hb1, hr⟩
          have bi := (hbi.alloc hbi.size _).trans (hb1.mono (Nat.le_trans hbi.size (by simp)))
          have bw1 := hb.trans (bi.mono hb.size)
          cases r with
          | false =>
            go_wp2_with fail
            go_ret
            exact ⟨_, rfl, bw1, fun h => by cases h⟩
          | true =>
            have HN := Lib.hid (hin.out.step _ HT.out (hr rfl))
            clear hin hr hps
            go_wp2_with fail
            go_roundw
            case rel => exact ⟨m + 1, by omega, by go_num, HN, bi⟩
            case measure => simp [intOf]; omega
        · have hall := Lib.hid (hin.out.all hmL)
          clear hin
          by_cases h0 : l.length = 0
          · have e0 : ((l.length : Int) == 0) = true := by rw [beq_iff_eq]; omega
            go_wp2_with fail
            all_goals go_ret
            all_goals exact ⟨_, rfl, bw, fun h => by cases h⟩
          · have e0 : ((l.length : Int) == 0) = false := by rw [beq_eq_false_iff_ne]; omega
            by_cases h9 : most < s + l.length
            · have e1 : ((most : Int) < (s : Int) + (l.length : Int)) = True := eq_true (by omega)
              go_wp2_with fail
              all_goals go_ret
              all_goals exact ⟨_, rfl, bw, fun h => by cases h⟩
            · have e1 : ((most : Int) < (s : Int) + (l.length : Int)) = False := eq_false (by omega)
              have HN := Lib.hid (hrec.out.step _ HL.out ⟨fun e => h0 (by rw [e]; rfl), by omega, hall.out⟩)
              clear hrec
              go_wp2_with fail
              go_roundw
              case rel => exact ⟨k + 1, s + l.length, by omega, by go_num, by go_num, by omega, by omega, by omega, HN, bw⟩
              case measure => simp [intOf]; omega
    · by_cases h0 : s = 0
      · have e0 : (0 < (s : Int)) = False := eq_false (by omega)
        go_wp2_with fail
        go_ret
        exact ⟨_, rfl, hb, fun h => by simp at h⟩
      · have e0 : (0 < (s : Int)) = True := eq_true (by omega)
        have HN : Hid (OkC most c) := ⟨fun e => h0 (hk0 (by rw [e] at hk; simpa using hk)), by omega, hrec.out.all hkL⟩
        go_wp2_with fail
        go_ret
        exact ⟨_, rfl, hb, fun _ => HN⟩
end Go.Proofs.YtdlpcfhhpjjjmaaDoor

namespace Go.Proofs.YtdlpcfhhpjjjmaaDoor
open Go.RowKit
set_option linter.unusedVariables false
set_option linter.unusedSimpArgs false

set_option maxRecDepth 100000 in
set_option maxHeartbeats 4000000 in
theorem scGood_any (c : List (List Tm)) (v : Value) (hF : Hid (FitC c)) (w : World) (hc : Hid (SlOf RTms 1 w v c)) :
    Calls Tryd.prog 50 #[v] w (GoodPost (OkC 24 c) w) := by
  go_enter Tryd.func50, Tryd.ntmps50
  go_wp2_with fail
  refine (goodTerms_any c v 24 (by omega) hF _ hc).mono ?_
  rintro e w1 ⟨r, rfl, hb1, hr⟩
  cases r with
  | false =>
    go_wp2_with fail
    go_ret
    exact ⟨_, rfl, hb1, fun h => by cases h⟩
  | true =>
    have HO := Lib.hid (hr rfl)
    have hcl := HO.out.2.1
    clear hr
    obtain ⟨ao, cap, rfl, hx⟩ := hc.out
    have HX := Lib.hid hx
    clear hx hc
    go_wp2_with fail
    go_loopw [12] (fun i wr => ∃ k : Nat, k ≤ c.length ∧ i = .int .i64 k ∧ Below w.heap.size w wr) (fun i _ => c.length - (intOf i).toNat)
    case atStart => exact ⟨0, Nat.zero_le _, rfl, hb1⟩
    case round =>
      obtain ⟨k, hk, rfl, hb⟩ := hrel
      by_cases hkL : k < c.length
      · obtain ⟨l, hl⟩ : ∃ l, c[k]? = some l := ⟨c[k], List.getElem?_eq_getElem hkL⟩
        obtain ⟨ab, aoff, us, rfl, hz, hcell, u, rfl, hu⟩ := HX.out k l hl
        have c0 := cellBS hb (hcell 0 u rfl)
        obtain ⟨ao2, cap2, rfl, hx2⟩ := hu.below RTm.mono hb
        have HX2 := Lib.hid hx2
        have hll := (HO.out.2.2 l (List.mem_of_getElem? hl)).2.1
        have HFL := Lib.hid (hF.out.2 l (List.mem_of_getElem? hl))
        clear hcell hl hu hz hx2
        simp only [Nat.mul_one, Nat.add_zero] at c0
        go_wp2_with fail
        go_loopw [18] (fun i wi => ∃ m : Nat, m ≤ l.length ∧ i = .int .i64 m ∧ Below wr.heap.size wr wi) (fun i _ => l.length - (intOf i).toNat)
        case atStart => exact ⟨0, Nat.zero_le _, rfl, Below.refl _ _⟩
        case round =>
          obtain ⟨m, hm2, rfl, hbi⟩ := hrel
          have bw := hb.trans (hbi.mono hb.size)
          by_cases hmL : m < l.length
          · obtain ⟨t, ht⟩ : ∃ t, l[m]? = some t := ⟨l[m], List.getElem?_eq_getElem hmL⟩
            obtain ⟨ab2, aoff2, us2, rfl, hz2, hcell2, hu2⟩ := HX2.out m t ht
            clear ht hz2
            obtain ⟨o, g, a, b, d, p⟩ := t
            unfold RTm at hu2
            subst hu2
            have k0 := cellBS hbi (hcell2 0 _ rfl)
            have k1 := cellBS hbi (hcell2 1 _ rfl)
            have k2 := cellBS hbi (hcell2 2 _ rfl)
            have k3 := cellBS hbi (hcell2 3 _ rfl)
            have k4 := cellBS hbi (hcell2 4 _ rfl)
            have k5 := cellBS hbi (hcell2 5 _ rfl)
            simp only [Nat.add_zero] at k0
            clear hcell2
            have bi := hbi.alloc hbi.size (.cells (termC o g a b d p) 36)
            have bwi := hb.trans (bi.mono hb.size)
            by_cases hp : 64 < p.size
            · have e0 : (64 < (p.size : Int)) = True := eq_true (by omega)
              go_wp2_with fail
              go_ret
              exact ⟨_, rfl, bwi, fun h => by cases h⟩
            · have e0 : (64 < (p.size : Int)) = False := eq_false (by omega)
              go_wp2_with fail
              go_roundw
              case rel => exact ⟨m + 1, by omega, by go_num, bi⟩
              case measure => simp [intOf]; omega
          · go_wp2_with fail
            go_roundw
            case rel => exact ⟨k + 1, by omega, by go_num, bw⟩
            case measure => simp [intOf]; omega
      · go_wp2_with fail
        go_ret
        exact ⟨_, rfl, hb, fun _ => HO⟩

/-- One list as a list of lists: behind the block that holds it. -/
theorem slOne {w : World} {u : Value} {l : List Tm} (h : SlOf RTm 6 w u l) : SlOf RTms 1 (w.alloc (.cells #[u] 59)) (.slice (some ⟨w.heap.size, 0, none⟩) 1 1) [l] := by
  refine ⟨some ⟨w.heap.size, 0, none⟩, 1, rfl, fun i x hi => ?_⟩
  have : i = 0 := by have := (List.getElem?_eq_some_iff.1 hi).1; simp at this; omega
  subst this
  simp at hi
  subst hi
  refine ⟨w.heap.size, 0, [u], rfl, rfl, fun j v hj => ?_, u, rfl, h.below RTm.mono ((Below.refl _ _).alloc (Nat.le_refl _) _)⟩
  have := cells_new w #[u] 59 j v hj
  rw [add_head] at this
  simpa using this

set_option maxHeartbeats 1000000 in
theorem scList_any (l : List Tm) (v : Value) (hF : Hid (FitL l)) (w : World) (hc : Hid (SlOf RTm 6 w v l)) :
    Calls Tryd.prog 51 #[v] w (GoodPost (OkC 24 [l]) w) := by
  have HS := Lib.hid (slOne hc.out)
  have HF : Hid (FitC [l]) := ⟨by simp, fun x hx => by rw [List.mem_singleton.1 hx]; exact hF⟩
  obtain ⟨ao, cap, rfl⟩ := hc.out.len
  go_enter Tryd.func51, Tryd.ntmps51
  go_wp2_with fail
  refine (scGood_any [l] _ HF _ HS).mono ?_
  rintro e w1 ⟨r, rfl, hb1, hr⟩
  have bw := ((Below.refl _ _).alloc (Nat.le_refl _) _).trans (hb1.mono (by simp))
  have HR := Lib.hid hr
  clear hr
  go_wp2_with fail
  go_ret
  exact ⟨_, rfl, bw, HR⟩
end Go.Proofs.YtdlpcfhhpjjjmaaDoor
