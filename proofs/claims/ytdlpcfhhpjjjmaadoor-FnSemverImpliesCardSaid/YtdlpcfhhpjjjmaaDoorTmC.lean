/- What a term says of a version, for each operator; lists of terms. From a slice that came in, as a row reads it, to SlOf. Terms and lists of terms that came in. -/
import Derived.Test.YtdlpcfhhpjjjmaaDoorOpsN
import Derived.Test.YtdlpcfhhpjjjmaaDoorOpsC
import Derived.Test.YtdlpcfhhpjjjmaaDoorTmA
import Derived.Test.YtdlpcfhhpjjjmaaDoorTmB
import Derived.Test.YtdlpcfhhpjjjmaaDoorSl
import Derived.Deep.Slices
import Derived.OpenShut
namespace Go.Proofs.YtdlpcfhhpjjjmaaDoor
open Go.RowKit
set_option linter.unusedVariables false
set_option linter.unusedSimpArgs false

/-- What the check of a term says of x.y.z-q. -/
def chkB (o : Int) (dy md pd : Bool) (x y z : Int) (q : ByteArray) (a b c : Int) (p : ByteArray) (pre : Bool) : Bool :=
  if o = 0 then shutB q.toList.isEmpty pre (equalV dy (tildeB pre q p x y z a b c md pd) (cmpI x y z q a b c p == 0))
  else if o = 1 then shutB q.toList.isEmpty pre (notV dy md pd (decide (x = a)) (decide (y = b)) (decide (z = c)) (apart q p) (cmpI x y z q a b c p != 0))
  else if o = 2 then shutB q.toList.isEmpty pre (aboveV dy md pd (decide (a < x)) (decide (x < a)) (decide (b < y)) (cmpI x y z q a b c p == 1))
  else if o = 3 then shutB q.toList.isEmpty pre (decide (cmpI x y z q a b c p < 0))
  else if o = 4 then shutB q.toList.isEmpty pre (decide (0 ≤ cmpI x y z q a b c p))
  else if o = 5 then shutB q.toList.isEmpty pre (mostV dy md (decide (a < x)) (decide (x < a)) (decide (b < y)) (decide (cmpI x y z q a b c p ≤ 0)))
  else if o = 6 then tildeB pre q p x y z a b c md pd
  else shutB q.toList.isEmpty pre (caretV (decide (cmpI x y z q a b c p < 0)) (decide (0 < a)) md (decide (x = a)) (decide (0 < x)) (decide (0 < b)) pd (decide (y = b)) (decide (0 < y)) (decide (z = c)))
def chk (x y z : Int) (q : ByteArray) (t : Tm) (pre : Bool) : Bool :=
  chkB t.1 (decide (t.2.1 ≠ 3)) (decide (t.2.1 = 1)) (decide (t.2.1 = 2)) x y z q t.2.2.1 t.2.2.2.1 t.2.2.2.2.1 t.2.2.2.2.2 pre

theorem chkB_is (o : Int) (dy md pd : Bool) (x y z a b c : Int) (q p : ByteArray) (pre : Bool) (ho : 0 ≤ o ∧ o ≤ 7) (hp : p.size ≤ 2147483647) (hq : q.size ≤ 2147483647) (ha : 0 ≤ a) (hb : 0 ≤ b) (hx : 0 ≤ x) (hy : 0 ≤ y) (hpp : pd = true → p.toList = []) :
    CheckIs (opS o) x y z a b c q p dy md pd pre (chkB o dy md pd x y z q a b c p pre) := by
  have hc : o = 0 ∨ o = 1 ∨ o = 2 ∨ o = 3 ∨ o = 4 ∨ o = 5 ∨ o = 6 ∨ o = 7 := by omega
  rcases hc with rfl | rfl | rfl | rfl | rfl | rfl | rfl | rfl
  · exact checkIs_eq x y z a b c q p dy md pd pre (by omega) (by omega)
  · exact checkIs_ne x y z a b c q p dy md pd pre (by omega) (by omega) hpp
  · exact checkIs_gt x y z a b c q p dy md pd pre (by omega) (by omega)
  · exact checkIs_lt x y z a b c q p dy md pd pre (by omega) (by omega)
  · exact checkIs_ge x y z a b c q p dy md pd pre (by omega) (by omega)
  · exact checkIs_le x y z a b c q p dy md pd pre (by omega) (by omega)
  · exact checkIs_ti x y z a b c q p dy md pd pre (by omega) (by omega)
  · exact checkIs_ca x y z a b c q p dy md pd pre (by omega) (by omega) ha hb hx hy

/-- Terms' numbers as Go holds them. -/
def NumT (t : Tm) : Prop := (Lit.int .u64 t.2.2.1).wf = true ∧ (Lit.int .u64 t.2.2.2.1).wf = true ∧ (Lit.int .u64 t.2.2.2.2.1).wf = true
theorem wf0 {a : Int} (h : (Lit.int .u64 a).wf = true) : 0 ≤ a ∧ a < 18446744073709551616 := by
  have h2 : (decide (IntKind.u64.min ≤ a) && decide (a ≤ IntKind.u64.max)) = true := h
  have e1 : IntKind.u64.min = 0 := by decide
  have e2 : IntKind.u64.max = 18446744073709551615 := by decide
  rw [e1, e2] at h2
  simp only [Bool.and_eq_true, decide_eq_true_eq] at h2
  omega

theorem checks_chk {c : List (List Tm)} {most : Nat} (x y z : Int) (q : ByteArray) (hx : 0 ≤ x) (hy : 0 ≤ y) (hq : q.size ≤ 2147483647) (hF : FitC c) (hO : OkC most c) (hN : ∀ l ∈ c, ∀ t ∈ l, NumT t) : ChecksAre (chk x y z q) x y z q c := by
  intro l hl t ht pre
  obtain ⟨h1, h2, h3, h4, -, -, h7, -, -, -⟩ := (hO.2.2 l hl).2.2 t ht
  have hn := hN l hl t ht
  exact chkB_is t.1 _ _ _ x y z _ _ _ q _ pre ⟨h1, by omega⟩ ((hF.2 l hl).2 t ht) hq (wf0 hn.1).1 (wf0 hn.2.1).1 hx hy (fun h => (h7 (by have := of_decide_eq_true h; omega)).2)

theorem tmsIn_ok {c : List (List Tm)} {most : Nat} (hm : most ≤ 1000) (hO : OkC most c) : TmsIn c :=
  ⟨by have := hO.2.1; omega, fun l hl => ⟨by have := (hO.2.2 l hl).2.1; omega, fun t ht => by
    obtain ⟨h1, h2, h3, h4, -⟩ := (hO.2.2 l hl).2.2 t ht
    exact ⟨⟨h1, by omega⟩, h3, h4⟩⟩⟩

/-- Of a release it does not count whether prereleases are let in. -/
theorem chk_release (x y z : Int) (q : ByteArray) (hq : q.toList = []) (t : Tm) (i j : Bool) : chk x y z q t i = chk x y z q t j := by
  have e : q.toList.isEmpty = true := by rw [hq]; rfl
  unfold chk chkB shutB tildeB
  simp [e]

theorem partI_self8 (s : ByteArray) : partI s s = 0 := by
  unfold partI; simp
theorem partsAt_self8 (A : List ByteArray) (k i : Nat) : partsAt A A k i = 0 := by
  induction k generalizing i with
  | zero => rfl
  | succ n ih => rw [partsAt, if_pos (partI_self8 _), ih]
theorem preI_self8 (s : ByteArray) : preI s s = 0 := partsAt_self8 _ _ _
theorem segI_self8 (a : Int) : segI a a = 0 := by unfold segI; simp
theorem cmpI_self8 (a b c : Int) (p : ByteArray) : cmpI a b c p a b c p = 0 := by
  unfold cmpI preC
  rw [segI_self8, segI_self8, segI_self8, preI_self8]
  cases p.toList.isEmpty <;> rfl

/-- The term '=' ahead of a version holds of it. -/
theorem chk_own (x y z : Int) (q : ByteArray) (pre : Bool) (h : q.toList = [] ∨ pre = true) : chk x y z q (0, 3, x, y, z, q) pre = true := by
  unfold chk chkB
  simp only [if_true]
  rw [cmpI_self8]
  unfold shutB equalV
  rcases h with h | h
  · rw [h]; rfl
  · rw [h]; cases q.toList.isEmpty <;> rfl

/-- The lists each with the terms of one more list behind them. -/
theorem allT_append {h : Tm → Bool → Bool} {inc : Bool} (hI : inc = true ∨ ∀ t i j, h t i = h t j) (m l : List Tm) : allT h inc (m ++ l) = (allT h inc m && allT h inc l) := by
  unfold allT
  rw [List.all_append]
  rcases hI with rfl | hI
  · simp
  · congr 1
    · congr 1; funext t; exact hI _ _ _
    · congr 1; funext t; exact hI _ _ _
theorem holdsT_distr {h : Tm → Bool → Bool} {inc : Bool} (hI : inc = true ∨ ∀ t i j, h t i = h t j) (c : List (List Tm)) (l : List Tm) : holdsT h inc (c.map (· ++ l)) = (holdsT h inc c && holdsT h inc [l]) := by
  unfold holdsT
  rw [List.any_map]
  have : (allT h inc ∘ fun x => x ++ l) = fun m => allT h inc m && allT h inc l := by funext m; exact allT_append hI m l
  rw [this]
  simp only [List.any_cons, List.any_nil, Bool.or_false]
  induction c with
  | nil => rfl
  | cons a c ih => rw [List.any_cons, List.any_cons, ih]; cases allT h inc a <;> cases allT h inc l <;> simp
theorem holdsT_own (x y z : Int) (q : ByteArray) (inc : Bool) (d : List (List Tm)) : holdsT (chk x y z q) inc (d ++ [[(0, 3, x, y, z, q)]]) = true := by
  unfold holdsT
  rw [List.any_append]
  have : allT (chk x y z q) inc [(0, 3, x, y, z, q)] = true := by
    unfold allT
    simp only [List.all_cons, List.all_nil, Bool.and_true]
    apply chk_own
    cases hq : q.toList with
    | nil => exact Or.inl rfl
    | cons b r => right; simp [hasPre, hasP, hq]
  simp [this]
end Go.Proofs.YtdlpcfhhpjjjmaaDoor

namespace Go.Proofs.YtdlpcfhhpjjjmaaDoor
open Go.RowKit Go.ChangeShapes Go.WideShapes Go.Deep
set_option linter.unusedVariables false

theorem list_of {α : Type} (P : Nat → α → Prop) : ∀ n : Nat, (∀ i, i < n → ∃ a, P i a) → ∃ l : List α, l.length = n ∧ ∀ (i : Nat) (a : α), l[i]? = some a → P i a
  | 0, _ => ⟨[], rfl, fun i a h => by simp at h⟩
  | n + 1, h => by
    obtain ⟨l, hl, hp⟩ := list_of P n (fun i hi => h i (by omega))
    obtain ⟨a, ha⟩ := h n (by omega)
    refine ⟨l ++ [a], by simp [hl], fun i b hb => ?_⟩
    by_cases hi : i < l.length
    · rw [List.getElem?_append_left hi] at hb; exact hp i b hb
    · have := (List.getElem?_eq_some_iff.1 hb).1
      simp at this
      obtain rfl : i = l.length := by omega
      simp at hb
      subst hb
      rw [hl]; exact ha

theorem spot_none {w : World} {a : Addr} {v : Value} (h : w.cell? a = some v) : a.spot = none := by
  cases hs : a.spot with
  | none => rfl
  | some s =>
    unfold World.cell? at h
    split at h
    · simp [hs] at h
    · simp at h

theorem add_add0 (b off n : Nat) : (⟨b, off, none⟩ : Addr).add n = ⟨b, off + n, none⟩ := by unfold Addr.add; split <;> simp_all

theorem sl_of_trod {α : Type} {H : Type} {enc : TypeId × Value → H} {P : Program} {W : World} {spare : Nat → Bool} {held : Bool} {t e : TypeId} {fuel : Nat} {v : Value} {x : DataW H × List MemPlace}
    (R : World → List Value → α → Prop) (Q : α → Prop) (z : Nat) (hz : P.cellsOf e = z) (hz0 : 0 < z) (ht : P.underlying t = some (.slice e))
    (helem : ∀ (n : Nat) (cs : List Value) (y : DataW H × List MemPlace), cs.length = z → DataW.trod enc P W 0 spare held n e cs = some y → ∃ a : α, R W cs a ∧ Q a)
    (h : DataW.trod enc P W 0 spare held fuel t [v] = some x) : ∃ l : List α, SlOf R z W v l ∧ ∀ a ∈ l, Q a := by
  rcases open_slice ht h with ⟨e0, _⟩ | ⟨a, len, cap, m, n, D, Pl, e0, _, hl, hcm, hm, _, hx⟩
  · simp at e0; subst e0
    exact ⟨[], ⟨none, 0, rfl, fun i x h => by simp at h⟩, fun a h => by simp at h⟩
  · simp at e0; subst e0
    rw [hz] at hx
    have hlm : len ≤ m := by rw [hm]; split <;> omega
    have each : ∀ i, i < len → ∃ b : α, (∃ cs, cs.length = z ∧ (∀ (j : Nat) (u : Value), cs[j]? = some u → W.cell? ((a.add (i * z)).add j) = some u) ∧ R W cs b) ∧ Q b := fun i hi => by
      obtain ⟨cs, h1, h2⟩ := hx i (by omega)
      obtain ⟨_, h3, h4⟩ := World.cells?_some h1
      obtain ⟨b, hb, hq⟩ := helem _ cs _ h3 h2
      exact ⟨b, ⟨cs, h3, fun j u hj => by rw [h4 j (by have := (List.getElem?_eq_some_iff.1 hj).1; omega)]; exact hj, hb⟩, hq⟩
    obtain ⟨l, hll, hp⟩ := list_of _ len each
    refine ⟨l, ⟨some a, cap, by rw [hll], fun i y hi => ?_⟩, fun b hb => ?_⟩
    · have hi0 : i < len := by have := (List.getElem?_eq_some_iff.1 hi).1; omega
      obtain ⟨⟨cs, h1, h2, h3⟩, _⟩ := hp i y hi
      have hs : a.spot = none := by
        obtain ⟨y0, hy0⟩ : ∃ y0, l[0]? = some y0 := ⟨l[0]'(by omega), List.getElem?_eq_getElem (by omega)⟩
        obtain ⟨⟨c0, g1, g2, g3⟩, _⟩ := hp 0 y0 hy0
        obtain ⟨u, hu⟩ : ∃ u, c0[0]? = some u := ⟨c0[0]'(by omega), List.getElem?_eq_getElem (by omega)⟩
        have := g2 0 u hu
        rw [Nat.zero_mul] at this
        exact spot_none this
      obtain ⟨b, off, sp⟩ := a
      simp at hs
      subst hs
      exact ⟨b, off, cs, rfl, h1, fun j u hj => by have := h2 j u hj; rw [add_add0, add_add0] at this; exact this, h3⟩
    · obtain ⟨i, hi⟩ := List.getElem?_of_mem hb
      exact (hp i b hi).2
end Go.Proofs.YtdlpcfhhpjjjmaaDoor

namespace Go.Proofs.YtdlpcfhhpjjjmaaDoor
open Go.RowKit Go.ChangeShapes Go.WideShapes Go.Deep
set_option linter.unusedVariables false

theorem cells_i64 : Tryd.prog.cellsOf 3 = 1 := by kernel_rfl
theorem cells_u64 : Tryd.prog.cellsOf 23 = 1 := by kernel_rfl
theorem cells_str : Tryd.prog.cellsOf 9 = 1 := by kernel_rfl
theorem cells_tm : Tryd.prog.cellsOf 36 = 6 := by kernel_rfl
theorem cells_tms : Tryd.prog.cellsOf 59 = 1 := by kernel_rfl

set_option maxRecDepth 100000 in
theorem trod_tm {H : Type} {enc : TypeId × Value → H} {W : World} {spare : Nat → Bool} {held : Bool} {n : Nat} {cs : List Value} {y : DataW H × List MemPlace} (hl : cs.length = 6)
    (h : DataW.trod enc Tryd.prog W 0 spare held n 36 cs = some y) : ∃ t : Tm, RTm W cs t ∧ NumT t := by
  match cs, hl with
  | [c0, c1, c2, c3, c4, c5], _ =>
    obtain ⟨xs, n, _, _, _, hlen, hg⟩ := DataW.trod_struct Tryd.underlying36 h
    match xs, hlen with
    | [y0, y1, y2, y3, y4, y5], _ =>
      have g0 : DataW.trod enc Tryd.prog W 0 spare held n 3 [c0] = some y0 := by
        simpa [Value.cells, cells_i64] using hg 0 _ rfl
      obtain ⟨x0, e0, _, w0⟩ := DataW.trod_int Tryd.underlying3 g0
      obtain rfl := (List.cons.inj e0).1
      have g1 : DataW.trod enc Tryd.prog W 0 spare held n 3 [c1] = some y1 := by
        simpa [Value.cells, cells_i64] using hg 1 _ rfl
      obtain ⟨x1, e1, _, w1⟩ := DataW.trod_int Tryd.underlying3 g1
      obtain rfl := (List.cons.inj e1).1
      have g2 : DataW.trod enc Tryd.prog W 0 spare held n 23 [c2] = some y2 := by
        simpa [Value.cells, cells_u64] using hg 2 _ rfl
      obtain ⟨x2, e2, _, w2⟩ := DataW.trod_int Tryd.underlying23 g2
      obtain rfl := (List.cons.inj e2).1
      have g3 : DataW.trod enc Tryd.prog W 0 spare held n 23 [c3] = some y3 := by
        simpa [Value.cells, cells_u64] using hg 3 _ rfl
      obtain ⟨x3, e3, _, w3⟩ := DataW.trod_int Tryd.underlying23 g3
      obtain rfl := (List.cons.inj e3).1
      have g4 : DataW.trod enc Tryd.prog W 0 spare held n 23 [c4] = some y4 := by
        simpa [Value.cells, cells_u64] using hg 4 _ rfl
      obtain ⟨x4, e4, _, w4⟩ := DataW.trod_int Tryd.underlying23 g4
      obtain rfl := (List.cons.inj e4).1
      have g5 : DataW.trod enc Tryd.prog W 0 spare held n 9 [c5] = some y5 := by
        simpa [Value.cells, cells_str] using hg 5 _ rfl
      obtain ⟨x5, e5, _, w5⟩ := DataW.trod_string Tryd.underlying9 g5
      obtain rfl := (List.cons.inj e5).1
      exact ⟨(x0, x1, x2, x3, x4, x5), rfl, w2, w3, w4⟩

theorem trod_tms {H : Type} {enc : TypeId × Value → H} {W : World} {spare : Nat → Bool} {held : Bool} {n : Nat} {v : Value} {x : DataW H × List MemPlace}
    (h : DataW.trod enc Tryd.prog W 0 spare held n 59 [v] = some x) : ∃ l : List Tm, SlOf RTm 6 W v l ∧ ∀ t ∈ l, NumT t :=
  sl_of_trod RTm NumT 6 cells_tm (by decide) Tryd.underlying59 (fun n cs y hl hy => trod_tm hl hy) h
theorem trod_tmss {H : Type} {enc : TypeId × Value → H} {W : World} {spare : Nat → Bool} {held : Bool} {n : Nat} {v : Value} {x : DataW H × List MemPlace}
    (h : DataW.trod enc Tryd.prog W 0 spare held n 50 [v] = some x) : ∃ c : List (List Tm), SlOf RTms 1 W v c ∧ ∀ l ∈ c, ∀ t ∈ l, NumT t :=
  sl_of_trod RTms (fun l => ∀ t ∈ l, NumT t) 1 cells_tms (by decide) Tryd.underlying50 (fun n cs y hl hy => by
    match cs, hl with
    | [u], _ =>
      obtain ⟨l, h1, h2⟩ := trod_tms hy
      exact ⟨l, ⟨u, rfl, h1⟩, h2⟩) h

set_option maxRecDepth 100000 in
theorem open_tms {H : Type} {enc : TypeId × Value → H} {W : World} {b0 : Nat} {spare : Nat → Bool} {held : Bool} {r : Reach} {v : Value} {d : DataW H} {p : List MemPlace} (hv : Value.okWide Tryd.prog W r b0 59 v) (h : DataW.Trod enc Tryd.prog W 0 spare held 59 v d p) :
    ∃ l : List Tm, SlOf RTm 6 W v l ∧ ∀ t ∈ l, NumT t := by
  obtain ⟨a, len, cap, rfl⟩ := okWide_slice Tryd.underlying59 hv
  obtain ⟨fuel, hf⟩ := h
  exact trod_tms (by simpa [Value.cells] using hf)
set_option maxRecDepth 100000 in
theorem open_tmss {H : Type} {enc : TypeId × Value → H} {W : World} {b0 : Nat} {spare : Nat → Bool} {held : Bool} {r : Reach} {v : Value} {d : DataW H} {p : List MemPlace} (hv : Value.okWide Tryd.prog W r b0 50 v) (h : DataW.Trod enc Tryd.prog W 0 spare held 50 v d p) :
    ∃ c : List (List Tm), SlOf RTms 1 W v c ∧ ∀ l ∈ c, ∀ t ∈ l, NumT t := by
  obtain ⟨a, len, cap, rfl⟩ := okWide_slice Tryd.underlying50 hv
  obtain ⟨fuel, hf⟩ := h
  exact trod_tmss (by simpa [Value.cells] using hf)
end Go.Proofs.YtdlpcfhhpjjjmaaDoor
