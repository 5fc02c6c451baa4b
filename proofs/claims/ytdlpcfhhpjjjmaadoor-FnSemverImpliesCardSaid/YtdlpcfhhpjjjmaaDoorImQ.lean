/- Implication is decided by finitely many releases: plain. laws.siGood, laws.siAll, laws.siEach. laws.FnSemverImplies returns true for every input. -/
import Derived.Test.YtdlpcfhhpjjjmaaDoorTmC
import Derived.Test.YtdlpcfhhpjjjmaaDoorImP
import Derived.Test.YtdlpcfhhpjjjmaaDoorLaidErr
namespace Go.Proofs.YtdlpcfhhpjjjmaaDoor
open Go.RowKit
set_option linter.unusedVariables false
set_option linter.unusedSimpArgs false

/-- How a release stands to a term's numbers: below; not above their first, first two, three. -/
def ltP (v u : Pt) : Prop := v.1 < u.1 ∨ (v.1 = u.1 ∧ (v.2.1 < u.2.1 ∨ (v.2.1 = u.2.1 ∧ v.2.2 < u.2.2)))
def le1 (v u : Pt) : Prop := v.1 ≤ u.1
def le2 (v u : Pt) : Prop := v.1 < u.1 ∨ (v.1 = u.1 ∧ v.2.1 ≤ u.2.1)
def le3 (v u : Pt) : Prop := v.1 < u.1 ∨ (v.1 = u.1 ∧ (v.2.1 < u.2.1 ∨ (v.2.1 = u.2.1 ∧ v.2.2 ≤ u.2.2)))

theorem cmp_rel (x y z a b c : Int) (p : ByteArray) : (cmpI x y z ⟨#[]⟩ a b c p = -1 ∧ ltP (x, y, z) (a, b, c)) ∨ (cmpI x y z ⟨#[]⟩ a b c p = 0 ∧ x = a ∧ y = b ∧ z = c ∧ p.toList.isEmpty = true) ∨ (cmpI x y z ⟨#[]⟩ a b c p = 1 ∧ ¬ ltP (x, y, z) (a, b, c) ∧ (¬ (x = a ∧ y = b ∧ z = c) ∨ p.toList.isEmpty = false)) := by
  unfold ltP cmpI segI preC
  by_cases h1 : x < a
  · left; simp [h1]
  · by_cases h2 : a < x
    · right; right
      refine ⟨by simp [h1, h2], by simp only; omega, Or.inl (by omega)⟩
    · obtain rfl : x = a := by omega
      by_cases h3 : y < b
      · left; simp [h3]
      · by_cases h4 : b < y
        · right; right
          refine ⟨by simp [h3, h4], by simp only; omega, Or.inl (by omega)⟩
        · obtain rfl : y = b := by omega
          by_cases h5 : z < c
          · left; simp [h5]
          · by_cases h6 : c < z
            · right; right
              refine ⟨by simp [h5, h6], by simp only; omega, Or.inl (by omega)⟩
            · obtain rfl : z = c := by omega
              cases hp : p.toList.isEmpty with
              | true => right; left; simp
              | false => right; right; refine ⟨by simp, by simp only; omega, Or.inr rfl⟩

/-- What a term says of a release, by where the release stands. -/
def relF (o g : Int) (pe : Bool) (a b c : Int) (A B1 B2 B3 : Prop) : Prop :=
  if o = 0 then (if g = 0 then ¬ A else if g = 1 then ¬ A ∧ B1 else if g = 2 then ¬ A ∧ B2 else ¬ A ∧ B3 ∧ pe = true)
  else if o = 1 then (if g = 1 then A ∨ ¬ B1 else if g = 2 then A ∨ ¬ B2 else A ∨ ¬ B3 ∨ pe = false)
  else if o = 2 then (if g = 1 then ¬ B1 else if g = 2 then ¬ B2 else ¬ A ∧ (¬ B3 ∨ pe = false))
  else if o = 3 then A
  else if o = 4 then ¬ A
  else if o = 5 then (if g = 1 then B1 else if g = 2 then B2 else A ∨ (B3 ∧ pe = true))
  else if o = 6 then (if g = 0 then ¬ A else if g = 1 then ¬ A ∧ B1 else ¬ A ∧ B2)
  else (¬ A ∧ (if 0 < a ∨ g = 1 then B1 else if 0 < b ∨ g = 2 then B2 else B3))

/-- A good term, but for its prerelease. -/
def OkR (t : Tm) : Prop := 0 ≤ t.1 ∧ t.1 < 8 ∧ 0 ≤ t.2.1 ∧ t.2.1 ≤ 3 ∧ (t.2.1 = 0 → t.1 = 0 ∨ t.1 = 4 ∨ t.1 = 6) ∧ ¬ (t.2.1 = 3 ∧ t.1 = 6 ∧ t.2.2.1 = 0 ∧ t.2.2.2.1 = 0 ∧ t.2.2.2.2.1 = 0) ∧ (t.2.1 < 3 → t.2.2.2.2.1 = 0 ∧ t.2.2.2.2.2.toList = []) ∧ (t.2.1 < 2 → t.2.2.2.1 = 0) ∧ (t.2.1 < 1 → t.2.2.1 = 0)
theorem OkT.r {t : Tm} (h : OkT t) : OkR t := by
  obtain ⟨h1, h2, h3, h4, h5, h6, h7, h8, h9, -⟩ := h
  exact ⟨h1, h2, h3, h4, h5, h6, h7, h8, h9⟩

set_option maxHeartbeats 4000000 in
theorem chk_rel (t : Tm) (v : Pt) (hv : In3 v) (ht : OkR t) (hn : In3 (lowT t)) (pre : Bool) :
    chk v.1 v.2.1 v.2.2 ⟨#[]⟩ t pre = true ↔ relF t.1 t.2.1 t.2.2.2.2.2.toList.isEmpty t.2.2.1 t.2.2.2.1 t.2.2.2.2.1 (ltP v (lowT t)) (le1 v (lowT t)) (le2 v (lowT t)) (le3 v (lowT t)) := by
  obtain ⟨x, y, z⟩ := v
  obtain ⟨o, g, a, b, c, p⟩ := t
  obtain ⟨h1, h2, h3, h4, h5, h6, h7, h8, h9⟩ := ht
  obtain ⟨⟨hx, -⟩, ⟨hy, -⟩, hz, -⟩ := hv
  obtain ⟨⟨ha, -⟩, ⟨hb, -⟩, hc, -⟩ := hn
  have hR := cmp_rel x y z a b c p
  simp only [lowT] at *
  unfold chk chkB relF
  simp only
  have e9 : (⟨#[]⟩ : ByteArray).toList.isEmpty = true := by simp
  generalize hRe : cmpI x y z ⟨#[]⟩ a b c p = R at *
  unfold ltP at *
  unfold le1 le2 le3
  simp only at *
  have hpe : g < 3 → p.toList.isEmpty = true := fun h => by rw [(h7 h).2]; rfl
  generalize hpeq : p.toList.isEmpty = pe at *
  have ho : o = 0 ∨ o = 1 ∨ o = 2 ∨ o = 3 ∨ o = 4 ∨ o = 5 ∨ o = 6 ∨ o = 7 := by omega
  have hg : g = 0 ∨ g = 1 ∨ g = 2 ∨ g = 3 := by omega
  rcases ho with rfl | rfl | rfl | rfl | rfl | rfl | rfl | rfl
  all_goals rcases hg with rfl | rfl | rfl | rfl
  all_goals first
    | omega
    | (cases pe <;> simp [shutB, e9, aboveV, equalV, tildeB, notV, apart, mostV, caretV] at hR hpe ⊢ <;> omega)
    | (have hq := (h7 (by omega)).2; cases pe <;> simp [shutB, e9, aboveV, equalV, tildeB, notV, apart, mostV, caretV, hq] at hR hpe ⊢ <;> omega)
    | (cases pe <;> simp [shutB, e9, aboveV, equalV, tildeB, notV, apart, mostV, caretV] at hR hpe ⊢ <;> (repeat' split) <;> omega)

theorem chk_same (t : Tm) (v w : Pt) (hv : In3 v) (hw : In3 w) (ht : OkT t) (hn : In3 (lowT t)) (pre : Bool) (h0 : ltP v (lowT t) ↔ ltP w (lowT t)) (h1 : le1 v (lowT t) ↔ le1 w (lowT t)) (h2 : le2 v (lowT t) ↔ le2 w (lowT t)) (h3 : le3 v (lowT t) ↔ le3 w (lowT t)) :
    chk v.1 v.2.1 v.2.2 ⟨#[]⟩ t pre = chk w.1 w.2.1 w.2.2 ⟨#[]⟩ t pre := by
  rw [Bool.eq_iff_iff, chk_rel t v hv ht.r hn pre, chk_rel t w hw ht.r hn pre]
  rw [propext h0, propext h1, propext h2, propext h3]

/-- Not above, in order. -/
def leP (v u : Pt) : Prop := ¬ ltP u v
theorem ltP_trans' (a b c : Pt) : leP a b → leP b c → leP a c := by unfold leP ltP; omega
/-- The greatest point that is not above v. -/
theorem landing (v : Pt) : ∀ (L : List Pt) (p : Pt), leP p v → ∃ q, (q = p ∨ q ∈ L) ∧ leP q v ∧ leP p q ∧ ∀ x ∈ L, leP x v → leP x q
  | [], p, hp => ⟨p, Or.inl rfl, hp, by unfold leP ltP; omega, fun x h => by simp at h⟩
  | y :: L, p, hp => by
    by_cases hy : leP y v ∧ ltP p y
    · obtain ⟨q, h1, h2, h3, h4⟩ := landing v L y hy.1
      refine ⟨q, ?_, h2, ltP_trans' _ _ _ (by unfold leP; have := hy.2; unfold ltP at *; omega) h3, fun x hx hxv => ?_⟩
      · rcases h1 with rfl | h1
        · right; simp
        · right; simp [h1]
      · rcases List.mem_cons.1 hx with rfl | hx
        · exact h3
        · exact h4 x hx hxv
    · obtain ⟨q, h1, h2, h3, h4⟩ := landing v L p hp
      refine ⟨q, h1.imp id (fun h => by simp [h]), h2, h3, fun x hx hxv => ?_⟩
      rcases List.mem_cons.1 hx with rfl | hx
      · have : leP x p := by unfold leP; intro h; exact hy ⟨hxv, h⟩
        exact ltP_trans' _ _ _ this h3
      · exact h4 x hx hxv

theorem bars (t : Tm) (v q : Pt) (hv : In3 v) (hq : In3 q) (hn : In3 (lowT t)) (L : List Pt) (hL : TmPts t L) (hqv : leP q v) (hg : ∀ x ∈ L, leP x v → leP x q) :
    (ltP v (lowT t) ↔ ltP q (lowT t)) ∧ (le1 v (lowT t) ↔ le1 q (lowT t)) ∧ (le2 v (lowT t) ↔ le2 q (lowT t)) ∧ (le3 v (lowT t) ↔ le3 q (lowT t)) := by
  obtain ⟨hl, hb⟩ := hL
  have k0 := hg _ hl
  generalize lowT t = u at *
  obtain ⟨a, b, c⟩ := u
  obtain ⟨x, y, z⟩ := v
  obtain ⟨x', y', z'⟩ := q
  obtain ⟨⟨hx, hx'⟩, ⟨hy, hy'⟩, hz, hz'⟩ := hv
  obtain ⟨⟨gx, gx'⟩, ⟨gy, gy'⟩, gz, gz'⟩ := hq
  obtain ⟨⟨ha, ha'⟩, ⟨hb0, hb'⟩, hc, hc'⟩ := hn
  simp only at *
  have hmem : ∀ (k : Nat) (r : Pt), k < 3 → blkK (k + 1) a b c = some r → leP r (x, y, z) → leP r (x', y', z') := fun k r hk hr h => hg r (hb r (by
    unfold blkU
    rw [List.mem_filterMap]
    exact ⟨k, by simpa using hk, hr⟩)) h
  have m1 : ∀ r, blk1 a = some r → leP r (x, y, z) → leP r (x', y', z') := fun r h => hmem 0 r (by omega) (by simp [blkK, h])
  have m2 : ∀ r, blk2 a b = some r → leP r (x, y, z) → leP r (x', y', z') := fun r h => hmem 1 r (by omega) (by simp [blkK, h])
  have m3 : ∀ r, blk3 a b c = some r → leP r (x, y, z) → leP r (x', y', z') := fun r h => hmem 2 r (by omega) (by simp [blkK, h])
  clear hmem hg hb hl
  have e1 : le1 (x, y, z) (a, b, c) ↔ le1 (x', y', z') (a, b, c) := by
    unfold blk1 at m1
    unfold leP ltP at *
    unfold le1
    simp only at *
    split at m1
    · have := m1 _ rfl; simp only at this; omega
    · omega
  have e2 : le2 (x, y, z) (a, b, c) ↔ le2 (x', y', z') (a, b, c) := by
    unfold blk2 at m2
    unfold le1 at e1
    unfold leP ltP at *
    unfold le2
    simp only at *
    split at m2
    · have := m2 _ rfl; simp only at this; omega
    · omega
  refine ⟨?_, e1, e2, ?_⟩
  · unfold leP ltP at *
    simp only at *
    omega
  · unfold blk3 at m3
    unfold le2 at e2
    unfold leP ltP at *
    unfold le3
    simp only at *
    split at m3
    · have := m3 _ rfl; simp only at this; omega
    · omega

/-- The law without a program. -/
theorem imp_plain (c d : List (List Tm)) (L : List Pt) (v : Pt) (hv : In3 v) (hc : OkC 10 c) (hd : OkC 10 d) (hnc : ∀ l ∈ c, ∀ t ∈ l, In3 (lowT t)) (hnd : ∀ l ∈ d, ∀ t ∈ l, In3 (lowT t)) (h0 : (0, 0, 0) ∈ L) (hin : ∀ x ∈ L, In3 x)
    (hpt : ∀ l ∈ c ++ d, ∀ t ∈ l, TmPts t L) (himp : ∀ p ∈ L, holdsT (chk p.1 p.2.1 p.2.2 ⟨#[]⟩) false c = true → holdsT (chk p.1 p.2.1 p.2.2 ⟨#[]⟩) false d = true) :
    holdsT (chk v.1 v.2.1 v.2.2 ⟨#[]⟩) false c = true → holdsT (chk v.1 v.2.1 v.2.2 ⟨#[]⟩) false d = true := by
  obtain ⟨q, h1, h2, h3, h4⟩ := landing v L (0, 0, 0) (by obtain ⟨⟨h1, -⟩, ⟨h2, -⟩, h3, -⟩ := hv; unfold leP ltP; simp only; omega)
  have hqL : q ∈ L := by rcases h1 with rfl | h1; exact h0; exact h1
  have same : ∀ e : List (List Tm), (∀ l ∈ e, ∀ t ∈ l, OkT t ∧ In3 (lowT t) ∧ TmPts t L) → holdsT (chk v.1 v.2.1 v.2.2 ⟨#[]⟩) false e = holdsT (chk q.1 q.2.1 q.2.2 ⟨#[]⟩) false e := by
    intro e he
    unfold holdsT allT
    rw [Bool.eq_iff_iff, List.any_eq_true, List.any_eq_true]
    have : ∀ l ∈ e, (l.all fun t => chk v.1 v.2.1 v.2.2 ⟨#[]⟩ t (false || hasPre l)) = (l.all fun t => chk q.1 q.2.1 q.2.2 ⟨#[]⟩ t (false || hasPre l)) := by
      intro l hl
      rw [Bool.eq_iff_iff, List.all_eq_true, List.all_eq_true]
      have hs : ∀ t ∈ l, chk v.1 v.2.1 v.2.2 ⟨#[]⟩ t (false || hasPre l) = chk q.1 q.2.1 q.2.2 ⟨#[]⟩ t (false || hasPre l) := fun t ht => by
        obtain ⟨o1, o2, o3⟩ := he l hl t ht
        obtain ⟨b0, b1, b2, b3⟩ := bars t v q hv (hin q hqL) o2 L o3 h2 h4
        exact chk_same t v q hv (hin q hqL) o1 o2 _ b0 b1 b2 b3
      exact ⟨fun h t ht => (hs t ht) ▸ h t ht, fun h t ht => (hs t ht).symm ▸ h t ht⟩
    exact ⟨fun ⟨l, hl, h⟩ => ⟨l, hl, (this l hl) ▸ h⟩, fun ⟨l, hl, h⟩ => ⟨l, hl, (this l hl).symm ▸ h⟩⟩
  rw [same c (fun l hl t ht => ⟨(hc.2.2 l hl).2.2 t ht, hnc l hl t ht, hpt l (List.mem_append_left _ hl) t ht⟩), same d (fun l hl t ht => ⟨(hd.2.2 l hl).2.2 t ht, hnd l hl t ht, hpt l (List.mem_append_right _ hl) t ht⟩)]
  exact himp q hqL

/-- '>= 0.0.0-0' holds of every release. -/
theorem all_plain (v : Pt) (hv : In3 v) : holdsT (chk v.1 v.2.1 v.2.2 ⟨#[]⟩) false [[(4, 3, 0, 0, 0, ⟨#[48]⟩)]] = true := by
  unfold holdsT allT
  simp only [List.any_cons, List.any_nil, List.all_cons, List.all_nil, Bool.and_true, Bool.or_false]
  rw [chk_rel _ v hv ⟨by decide, by decide, by decide, by decide, fun h => by simp at h, fun h => by simp at h, fun h => by simp at h, fun h => by simp at h, fun h => by simp at h⟩ ⟨⟨by decide, by decide⟩, ⟨by decide, by decide⟩, ⟨by decide, by decide⟩⟩]
  obtain ⟨⟨h1, -⟩, ⟨h2, -⟩, h3, -⟩ := hv
  unfold relF ltP
  simp [lowT]
  omega
end Go.Proofs.YtdlpcfhhpjjjmaaDoor

namespace Go.Proofs.YtdlpcfhhpjjjmaaDoor
open Go.RowKit
set_option linter.unusedVariables false
set_option linter.unusedSimpArgs false

theorem implies1_any (x y : Bool) (w : World) : Calls Tryd.prog 46 #[.bool x, .bool y] w fun e w' => e = .returned (.bool (!x || y)) ∧ w = w' := by
  cases x <;> cases y <;>
    (go_enter Tryd.func46, Tryd.ntmps46
     go_wp2_with fail
     go_ret
     exact ⟨rfl, rfl⟩)

def RTmss (w : World) (us : List Value) (c : List (List Tm)) : Prop := ∃ u, us = [u] ∧ SlOf RTms 1 w u c
theorem RTmss.mono : Mono RTmss := fun _ _ _ _ hb ⟨u, e, h⟩ => ⟨u, e, h.below RTms.mono hb⟩

set_option maxRecDepth 100000 in
set_option maxHeartbeats 4000000 in
theorem siGood_any (C : List (List (List Tm))) (v : Value) (hF : Hid (∀ c ∈ C, FitC c)) (hn : C.length ≤ 100) (w : World) (hc : Hid (SlOf RTmss 1 w v C)) :
    Calls Tryd.prog 44 #[v] w (GoodPost (∀ c ∈ C, OkC 10 c) w) := by
  obtain ⟨ao, cap, rfl, hx⟩ := hc.out
  have HX := Lib.hid hx
  clear hx hc
  go_enter Tryd.func44, Tryd.ntmps44
  go_wp2_with fail
  go_loopw [7] (fun i wr => ∃ k : Nat, k ≤ C.length ∧ i = .int .i64 k ∧ Hid (UpTo (OkC 10) C k) ∧ Below w.heap.size w wr) (fun i _ => C.length - (intOf i).toNat)
  case atStart => exact ⟨0, Nat.zero_le _, rfl, UpTo.zero _ _, Below.refl _ _⟩
  case round =>
    obtain ⟨k, hk, rfl, hrec, hb⟩ := hrel
    by_cases hkL : k < C.length
    · obtain ⟨c, hl⟩ : ∃ c, C[k]? = some c := ⟨C[k], List.getElem?_eq_getElem hkL⟩
      obtain ⟨ab, aoff, us, rfl, hz, hcell, u, rfl, hu⟩ := HX.out k c hl
      have c0 := cellBS hb (hcell 0 u rfl)
      have HU := Lib.hid (hu.below RTms.mono hb)
      have HL := Lib.hid hl
      have HFc := Lib.hid (hF.out c (List.mem_of_getElem? hl))
      obtain ⟨ao2, cap2, rfl⟩ := hu.len
      clear hcell hl hz hu
      simp only [Nat.mul_one, Nat.add_zero] at c0
      go_wp2_with fail
      refine (goodTerms_any c _ 10 (by omega) HFc _ HU).mono ?_
      rintro e w1 ⟨r, rfl, hb1, hr⟩
      have bw := hb.trans (hb1.mono hb.size)
      have HU1 := Lib.hid (HU.out.below RTms.mono hb1)
      cases r with
      | false =>
        go_wp2_with fail
        go_ret
        exact ⟨_, rfl, bw, fun h => by cases h⟩
      | true =>
        have HO := Lib.hid (hr rfl)
        clear hr hb1
        go_wp2_with fail
        refine (scGood_any c _ HFc _ HU1).mono ?_
        rintro e w2 ⟨r, rfl, hb2, hr⟩
        have bw2 := bw.trans (hb2.mono bw.size)
        cases r with
        | false =>
          go_wp2_with fail
          go_ret
          exact ⟨_, rfl, bw2, fun h => by cases h⟩
        | true =>
          have HN := Lib.hid (hrec.out.step _ HL.out HO.out)
          clear hrec hr
          go_wp2_with fail
          go_roundw
          case rel => exact ⟨k + 1, by omega, by go_num, HN, bw2⟩
          case measure => simp [intOf]; omega
    · have HN := Lib.hid (hrec.out.all hkL)
      go_wp2_with fail
      go_ret
      exact ⟨_, rfl, hb, fun _ => HN.out⟩

def allL : List (List Tm) := [[(4, 3, 0, 0, 0, ⟨#[48]⟩)]]
set_option maxHeartbeats 1000000 in
theorem siAll_any (w : World) : Calls Tryd.prog 48 #[] w fun e w' => ∃ v, e = .returned v ∧ SlOf RTms 1 w' v allL ∧ Below w.heap.size w w' := by
  go_enter Tryd.func48, Tryd.ntmps48
  go_wp2_with fail
  go_ret
  refine ⟨_, rfl, ?_, (by repeat (first | (with_reducible assumption) | (with_reducible exact Below.refl _ _) | (with_reducible refine below_drewN ?_ _) | (with_reducible refine Below.drew ?_) | (with_reducible refine Below.alloc ?_ (by first | omega | (simp <;> omega)) _)))⟩
  have h1 : SlOf RTm 6 (w.alloc (.cells (termC 4 3 0 0 0 ⟨#[48]⟩) 36)) (.slice (some ⟨w.heap.size, 0, none⟩) 1 1) [(4, 3, 0, 0, 0, ⟨#[48]⟩)] :=
    (show OwnOf RTm 6 w.heap.size 36 _ _ _ from ⟨[(termC 4 3 0 0 0 ⟨#[48]⟩).toList], rfl, fun us h => by rw [List.mem_singleton] at h; subst h; rfl, World.ownsRow_lit (e := 36) (size := 6) w (termC 4 3 0 0 0 ⟨#[48]⟩) 1 (Nat.le_refl _) (by unfold maxLen; omega) rfl, fun i x us hi hu => by
      have : i = 0 := by have := (List.getElem?_eq_some_iff.1 hi).1; simp at this; omega
      subst this
      simp at hi hu
      subst hi; subst hu; rfl⟩).sl
  have h2 := slOne h1
  simpa [allL] using h2

/-- The lists of a constraint that is not empty, as the source of an append. -/
theorem slTms_src {w : World} {v : Value} {c : List (List Tm)} (h : SlOf RTms 1 w v c) (hc : c ≠ []) : ∃ (b off cap : Nat) (us : List Value), v = .slice (some ⟨b, off, none⟩) c.length cap ∧ us.length = c.length ∧ (∀ (j : Nat) (x : Value), us[j]? = some x → w.cell? ((⟨b, off, none⟩ : Addr).add j) = some x) ∧ (∀ (i : Nat) (u : Value) (l : List Tm), us[i]? = some u → c[i]? = some l → SlOf RTm 6 w u l) := by
  obtain ⟨ao, cap, rfl, hx⟩ := h
  obtain ⟨t0, ht0⟩ : ∃ t, c[0]? = some t := by cases c with
    | nil => exact absurd rfl hc
    | cons a r => exact ⟨a, rfl⟩
  obtain ⟨b, off, us, rfl, -⟩ := hx 0 t0 ht0
  obtain ⟨us, hl, hp⟩ := list_of (fun i u => w.cell? ⟨b, off + i, none⟩ = some u ∧ ∀ l, c[i]? = some l → SlOf RTm 6 w u l) c.length (fun i hi => by
    obtain ⟨b', off', us, e, hz, hcell, u, rfl, hu⟩ := hx i c[i] (List.getElem?_eq_getElem hi)
    simp only [Option.some.injEq, Addr.mk.injEq, and_true] at e
    obtain ⟨rfl, rfl⟩ := e
    have h0 := hcell 0 u rfl
    simp only [Nat.mul_one, Nat.add_zero] at h0
    exact ⟨u, h0, fun l hl => by rw [List.getElem?_eq_getElem hi] at hl; cases hl; exact hu⟩)
  refine ⟨b, off, cap, us, rfl, hl, fun j x hj => ?_, fun i u l hi hcl => (hp i u hi).2 l hcl⟩
  rw [show (⟨b, off, none⟩ : Addr).add j = ⟨b, off + j, none⟩ from by unfold Addr.add; split <;> simp_all]
  exact (hp j x hj).1
theorem slice_one {w : World} {us : List Value} {c : List (List Tm)} (hl : us.length = c.length) (h : ∀ (i : Nat) (u : Value) (l : List Tm), us[i]? = some u → c[i]? = some l → SlOf RTm 6 w u l) : ∀ u ∈ us, u.oneCell' = true := fun u hu => by
  obtain ⟨i, hi⟩ := List.getElem?_of_mem hu
  have hi2 := (List.getElem?_eq_some_iff.1 hi).1
  obtain ⟨ao, cap, rfl⟩ := (h i u (c[i]'(by omega)) hi (List.getElem?_eq_getElem (by omega))).len
  rfl
theorem own_tms {w : World} {B e : Nat} {v : Value} {us : List Value} {c : List (List Tm)} (h : w.ownsRow B e 1 v c.length us) (hl : us.length = c.length) (hr : ∀ (i : Nat) (u : Value) (l : List Tm), us[i]? = some u → c[i]? = some l → SlOf RTm 6 w u l) : SlOf RTms 1 w v c := by
  have : OwnOf RTms 1 B e w v c := ⟨us.map fun u => [u], by simp [hl], fun x hx => by rw [List.mem_map] at hx; obtain ⟨u, _, rfl⟩ := hx; rfl, by
    have e1 : (us.map fun u => [u]).flatten = us := by
      clear h hl hr
      induction us with
      | nil => rfl
      | cons a l ih => simp [ih]
    rw [e1]; exact h, fun i x vs hi hu => by
    rw [List.getElem?_map] at hu
    cases hus : us[i]? with
    | none => rw [hus] at hu; simp at hu
    | some u => rw [hus] at hu; simp at hu; exact ⟨u, hu.symm, hr i u x hus hi⟩⟩
  exact this.sl

theorem Tryd.infoTmsI : (Tryd.prog.info? 59).map (fun i => (i.zero, i.size, i.bytes)) = some (some (.slice none 0 0), 1, 24) := by kernel_rfl

def EachPost (c d : List (List Tm)) (w : World) (e : Ending) (w' : World) : Prop :=
  ∃ r, e = .returned (.bool r) ∧ Below w.heap.size w w' ∧ (r = true → ∃ L : List Pt, (0, 0, 0) ∈ L ∧ (∀ x ∈ L, In3 x) ∧ (∀ l ∈ c ++ d, ∀ t ∈ l, TmPts t L) ∧ ∀ p ∈ L, holdsT (chk p.1 p.2.1 p.2.2 ⟨#[]⟩) false c = true → holdsT (chk p.1 p.2.1 p.2.2 ⟨#[]⟩) false d = true)

set_option maxRecDepth 100000 in
set_option maxHeartbeats 8000000 in
theorem siEach_any (c d : List (List Tm)) (v1 v2 : Value) (w : World) (hc : Hid (SlOf RTms 1 w v1 c)) (hd : Hid (SlOf RTms 1 w v2 d)) (HC : Hid (OkC 10 c ∧ FitC c ∧ ∀ l ∈ c, ∀ t ∈ l, NumT t)) (HD : Hid (OkC 10 d ∧ FitC d ∧ ∀ l ∈ d, ∀ t ∈ l, NumT t)) (he : Hid (Errs w)) :
    Calls Tryd.prog 45 #[v1, v2, .func (.func 46) #[] #[]] w (EachPost c d w) := by
  obtain ⟨j0, gi, gz0, gz1, gz2⟩ := info_parts Tryd.infoTmsI
  obtain ⟨b1, off1, cap1, us1, rfl, hl1, hs1, hr1⟩ := slTms_src hc.out HC.out.1.1
  obtain ⟨b2, off2, cap2, us2, rfl, hl2, hs2, hr2⟩ := slTms_src hd.out HD.out.1.1
  have HU1 := Lib.hid (And.intro hs1 hr1)
  have HU2 := Lib.hid (And.intro hs2 hr2)
  have hcl := HC.out.1.2.1
  have hdl := HD.out.1.2.1
  clear hs1 hr1 hs2 hr2
  go_enter Tryd.func45, Tryd.ntmps45
  have bA := Lib.hid ((Below.refl w.heap.size w).alloc (Nat.le_refl _) (.cells #[] 59))
  have how := World.ownsRow_lit (base := w.heap.size) (e := 59) (size := 1) w #[] 0 (Nat.le_refl _) (by unfold maxLen; omega) rfl
  go_wp2_with (at_builtin; refine stop_here ?_)
  unfold Stop
  refine wpList_append_own _ rfl _ _ 50 rfl _ 59 j0 (.slice none 0 0) 1 24 Tryd.underlying50 gi gz0 gz1 gz2 rfl (by decide) _ _ _ rfl how ⟨b1, off1, none⟩ c.length cap1 us1 rfl (by omega) (fun j u h => cellBS bA.out (HU1.out.1 j u h)) (slice_one hl1 HU1.out.2) ?_ ?_ ?_ ?_
  · unfold maxLen; omega
  · omega
  · exact bA.out.size
  intro v3 w3 hown3 hg3 _
  have b3 := Lib.hid (Below.grown bA.out hg3 bA.out.size (fun k hk => (how.lt k hk).1))
  clear hg3 how bA
  simp only [Array.toList_empty, List.nil_append, Nat.zero_add] at hown3
  go_wp2_with (at_builtin; refine stop_here ?_)
  unfold Stop
  refine wpList_append_own _ rfl _ _ 50 rfl _ 59 j0 (.slice none 0 0) 1 24 Tryd.underlying50 gi gz0 gz1 gz2 rfl (by decide) _ _ _ rfl hown3 ⟨b2, off2, none⟩ d.length cap2 us2 rfl (by omega) (fun j u h => cellBS b3.out (HU2.out.1 j u h)) (slice_one hl2 HU2.out.2) ?_ ?_ ?_ ?_
  · unfold maxLen; omega
  · omega
  · exact b3.out.size
  intro v4 w4 hown4 hg4 _
  have b4 := Lib.hid (Below.grown b3.out hg4 b3.out.size (fun k hk => (hown3.lt k hk).1))
  have HS4 : Hid (SlOf RTms 1 w4 v4 (c ++ d)) := own_tms (by rw [List.length_append]; exact hown4) (by rw [List.length_append, List.length_append, hl1, hl2]) (fun i u l hi hl => by
    by_cases h : i < c.length
    · rw [List.getElem?_append_left (by omega)] at hi
      rw [List.getElem?_append_left h] at hl
      exact (HU1.out.2 i u l hi hl).below RTm.mono b4.out
    · rw [List.getElem?_append_right (by omega), hl1] at hi
      rw [List.getElem?_append_right (by omega)] at hl
      exact (HU2.out.2 _ u l hi hl).below RTm.mono b4.out)
  clear hg4 hown4 hown3 b3
  have HLn : Hid (∀ l ∈ c ++ d, l.length ≤ 10 ∧ ∀ t ∈ l, In3 (lowT t)) := fun l hl => by
    rcases List.mem_append.1 hl with h | h
    · exact ⟨(HC.out.1.2.2 l h).2.1, fun t ht => by obtain ⟨n1, n2, n3⟩ := HC.out.2.2 l h t ht; exact ⟨wf0 n1, wf0 n2, wf0 n3⟩⟩
    · exact ⟨(HD.out.1.2.2 l h).2.1, fun t ht => by obtain ⟨n1, n2, n3⟩ := HD.out.2.2 l h t ht; exact ⟨wf0 n1, wf0 n2, wf0 n3⟩⟩
  obtain ⟨ao4, cap4, e4⟩ := HS4.out.len
  rw [List.length_append] at e4
  subst e4
  go_wp2_with fail
  refine (points_any (c ++ d) _ _ HS4 (by rw [List.length_append]; omega) HLn).mono ?_
  rintro e w5 ⟨v5, L, rfl, hP, hLn⟩
  have HP := Lib.hid hP
  obtain ⟨ao5, cap5, e5, hx5⟩ := hP.1.sl
  subst e5
  have HX5 := Lib.hid hx5
  have b5 := Lib.hid (b4.out.trans (hP.2.2.2.2.mono b4.out.size))
  clear hP hx5 HS4 b4
  go_wp2_with fail
  go_loopw [16] (fun i wr => ∃ k : Nat, k ≤ L.length ∧ i = .int .i64 k ∧ Hid (UpTo (fun p : Pt => holdsT (chk p.1 p.2.1 p.2.2 ⟨#[]⟩) false c = true → holdsT (chk p.1 p.2.1 p.2.2 ⟨#[]⟩) false d = true) L k) ∧ Hid (Below w5.heap.size w5 wr)) (fun i _ => L.length - (intOf i).toNat)
  case atStart => exact ⟨0, Nat.zero_le _, rfl, UpTo.zero _ _, Below.refl _ _⟩
  case round =>
    obtain ⟨k, hk, rfl, hrec, hb⟩ := hrel
    have bwr := Lib.hid (b5.out.trans (hb.out.mono b5.out.size))
    by_cases hkL : k < L.length
    · obtain ⟨x, hx⟩ : ∃ x, L[k]? = some x := ⟨L[k], List.getElem?_eq_getElem hkL⟩
      obtain ⟨b6, off6, us6, rfl, hz6, hcell6, hu6⟩ := HX5.out k x hx
      have HXk := Lib.hid hx
      have HIx := Lib.hid (HP.out.2.2.1 x (List.mem_of_getElem? hx))
      obtain ⟨xa, xb, xc⟩ := x
      unfold RPt ptL at hu6
      subst hu6
      have q0 := cellBS hb.out (hcell6 0 _ rfl)
      have q1 := cellBS hb.out (hcell6 1 _ rfl)
      have q2 := cellBS hb.out (hcell6 2 _ rfl)
      have q3 := cellBS hb.out (hcell6 3 _ rfl)
      have q4 := cellBS hb.out (hcell6 4 _ rfl)
      simp only [Nat.add_zero] at q0
      clear hcell6 hz6 hx
      have hPx := Lib.hid (plainAt_last wr (plainC xa xb xc ⟨#[]⟩ ⟨#[]⟩) _ rfl)
      have bX := Lib.hid ((Below.refl wr.heap.size wr).alloc (Nat.le_refl _) (.cells (plainC xa xb xc ⟨#[]⟩ ⟨#[]⟩) 25))
      have bV := Lib.hid (hb.out.trans (bX.out.mono hb.out.size))
      have HKc := Lib.hid (checks_chk xa xb xc ⟨#[]⟩ HIx.out.1.1 HIx.out.2.1.1 (by show (0 : Nat) ≤ 2147483647; omega) HC.out.2.1 HC.out.1 HC.out.2.2)
      have HKd := Lib.hid (checks_chk xa xb xc ⟨#[]⟩ HIx.out.1.1 HIx.out.2.1.1 (by show (0 : Nat) ≤ 2147483647; omega) HD.out.2.1 HD.out.1 HD.out.2.2)
      have HTc := Lib.hid (tmsIn_ok (by omega) HC.out.1)
      have HTd := Lib.hid (tmsIn_ok (by omega) HD.out.1)
      obtain ⟨X, HXc⟩ : ∃ X, Hid (holdsT (chk xa xb xc ⟨#[]⟩) false c = X) := ⟨_, rfl⟩
      obtain ⟨Y, HYd⟩ : ∃ Y, Hid (holdsT (chk xa xb xc ⟨#[]⟩) false d = Y) := ⟨_, rfl⟩
      go_wp2_with fail
      refine wp_named ?_
      intro W1 hW1
      rw [hW1] at hPx bX bV
      have BW := Lib.hid (bwr.out.trans (bX.out.mono bwr.out.size))
      clear hW1 q0 q1 q2 q3 q4
      refine wp_region_held_drew (S := fun w' => Hid (Below W1.heap.size W1 w')) (by kernel_rfl) ?_ (fun hHeld => ?_)
      · exact (Below.refl _ _).drew
      refine wpAnyH_take (i := 0) (v := ?_) rfl (by kernel_rfl) (by kernel_rfl) (by kernel_rfl) (fun _ _ _ h => h) (Or.inl ⟨by rfl, ?_⟩) (by assumption) ?_
      rotate_left
      · (intro w hSw; go_simp; (try with_reducible rfl))
      (try simp only [Act.put, List.getElem_toArray, List.getElem_cons_zero, List.getElem_cons_succ, List.setIfInBounds_toArray, List.set_cons_zero, List.set_cons_succ])
      refine wpAnyH_take (i := 1) (v := ?_) rfl (by kernel_rfl) (by kernel_rfl) (by kernel_rfl) (fun _ _ _ h => h) (Or.inl ⟨by rfl, ?_⟩) (by assumption) ?_
      rotate_left
      · (intro w hSw; go_simp; (try with_reducible rfl))
      (try simp only [Act.put, List.getElem_toArray, List.getElem_cons_zero, List.getElem_cons_succ, List.setIfInBounds_toArray, List.set_cons_zero, List.set_cons_succ])
      refine wpAnyH_take (i := 2) (v := ?_) rfl (by kernel_rfl) (by kernel_rfl) (by kernel_rfl) (fun _ _ _ h => h) (Or.inl ⟨by rfl, ?_⟩) (by assumption) ?_
      rotate_left
      · (intro w hSw; have k0 := (hPx.out.below8 hSw.out).cell 0; have k1 := (hPx.out.below8 hSw.out).cell 1; have k2 := (hPx.out.below8 hSw.out).cell 2; have k3 := (hPx.out.below8 hSw.out).cell 3; have k4 := (hPx.out.below8 hSw.out).cell 4; go_simp; (try with_reducible rfl))
      (try simp only [Act.put, List.getElem_toArray, List.getElem_cons_zero, List.getElem_cons_succ, List.setIfInBounds_toArray, List.set_cons_zero, List.set_cons_succ])
      refine wpAnyH_take (i := 4) (v := ?_) rfl (by kernel_rfl) (by kernel_rfl) (by kernel_rfl) (fun _ _ _ h => h) (Or.inl ⟨by rfl, ?_⟩) (by assumption) ?_
      rotate_left
      · (intro w hSw; go_simp; (try with_reducible rfl))
      (try simp only [Act.put, List.getElem_toArray, List.getElem_cons_zero, List.getElem_cons_succ, List.setIfInBounds_toArray, List.set_cons_zero, List.set_cons_succ])
      refine wpAnyH_take (i := 5) (v := ?_) rfl (by kernel_rfl) (by kernel_rfl) (by kernel_rfl) (fun _ _ _ h => h) (Or.inl ⟨by rfl, ?_⟩) (by assumption) ?_
      rotate_left
      · (intro w hSw; have k0 := (hPx.out.below8 hSw.out).cell 0; have k1 := (hPx.out.below8 hSw.out).cell 1; have k2 := (hPx.out.below8 hSw.out).cell 2; have k3 := (hPx.out.below8 hSw.out).cell 3; have k4 := (hPx.out.below8 hSw.out).cell 4; go_simp; (try with_reducible rfl))
      (try simp only [Act.put, List.getElem_toArray, List.getElem_cons_zero, List.getElem_cons_succ, List.setIfInBounds_toArray, List.set_cons_zero, List.set_cons_succ])
      refine wpAnyH_ready (rs := [3]) (by kernel_rfl) (by simp) ?_
      refine AllReadyH.cons rfl (fun K hK => ?_) AllReadyH.nil
      go_simp
      go_at_call 47
      refine (termsHold_any (chk xa xb xc ⟨#[]⟩) c _ xa xb xc ⟨#[]⟩ ⟨#[]⟩ false _ (hc.out.below RTms.mono (BW.out.trans (hHeld.out.mono BW.out.size))) (he.out.below (BW.out.trans (hHeld.out.mono BW.out.size))) HTc HKc).mono ?_
      rintro e w' ⟨ev, hb1⟩
      rw [HXc.out] at ev
      subst ev
      have HH := Lib.hid (hHeld.out.trans (hb1.mono hHeld.out.size))
      clear hb1
      refine hK.out _ _ HH (fun hH2 => ?_)
      clear hK K hHeld hH2
      have hHeld := HH
      clear HH
      (try simp only [Act.put, List.getElem_toArray, List.getElem_cons_zero, List.getElem_cons_succ, List.setIfInBounds_toArray, List.set_cons_zero, List.set_cons_succ])
      refine wpAnyH_ready (rs := [6]) (by kernel_rfl) (by simp) ?_
      refine AllReadyH.cons rfl (fun K hK => ?_) AllReadyH.nil
      go_simp
      go_at_call 47
      refine (termsHold_any (chk xa xb xc ⟨#[]⟩) d _ xa xb xc ⟨#[]⟩ ⟨#[]⟩ false _ (hd.out.below RTms.mono (BW.out.trans (hHeld.out.mono BW.out.size))) (he.out.below (BW.out.trans (hHeld.out.mono BW.out.size))) HTd HKd).mono ?_
      rintro e w' ⟨ev, hb1⟩
      rw [HYd.out] at ev
      subst ev
      have HH := Lib.hid (hHeld.out.trans (hb1.mono hHeld.out.size))
      clear hb1
      refine hK.out _ _ HH (fun hH2 => ?_)
      clear hK K hHeld hH2
      have hHeld := HH
      clear HH
      (try simp only [Act.put, List.getElem_toArray, List.getElem_cons_zero, List.getElem_cons_succ, List.setIfInBounds_toArray, List.set_cons_zero, List.set_cons_succ])
      refine wpAnyH_ready (rs := [7]) (by kernel_rfl) (by simp) ?_
      refine AllReadyH.cons rfl (fun K hK => ?_) AllReadyH.nil
      go_simp
      go_at_call 46
      refine (implies1_any _ _ _).mono ?_
      rintro e w' ⟨rfl, rfl⟩
      have HH := hHeld
      refine hK.out _ _ HH (fun hH2 => ?_)
      clear hK K hHeld hH2
      have hHeld := HH
      clear HH
      (try simp only [Act.put, List.getElem_toArray, List.getElem_cons_zero, List.getElem_cons_succ, List.setIfInBounds_toArray, List.set_cons_zero, List.set_cons_succ])
      refine wpAnyH_take (i := 8) (v := ?_) rfl (by kernel_rfl) (by kernel_rfl) (by kernel_rfl) (fun _ _ _ h => h) (Or.inl ⟨by rfl, ?_⟩) (by assumption) ?_
      rotate_left
      · (intro w hSw; go_simp; (try with_reducible rfl))
      (try simp only [Act.put, List.getElem_toArray, List.getElem_cons_zero, List.getElem_cons_succ, List.setIfInBounds_toArray, List.set_cons_zero, List.set_cons_succ])
      refine wpAnyH_done (by kernel_rfl) ?_ _
      have BE := Lib.hid (BW.out.trans (hHeld.out.mono BW.out.size))
      have BE5 := Lib.hid (bV.out.trans (hHeld.out.mono bV.out.size))
      cases X with
      | false =>
        have HN := Lib.hid (hrec.out.step _ HXk.out (fun h => absurd (HXc.out.symm.trans h) (by decide)))
        clear hrec
        cases Y
        all_goals
          go_wp2_with fail
          go_roundw
          case rel => exact ⟨k + 1, by omega, by go_num, HN, BE5⟩
          case measure => simp [intOf]; omega
      | true =>
        cases Y with
        | false =>
          go_wp2_with fail
          go_ret
          exact ⟨_, rfl, BE.out, fun h => by cases h⟩
        | true =>
          have HN := Lib.hid (hrec.out.step _ HXk.out (fun _ => HYd.out))
          clear hrec
          go_wp2_with fail
          go_roundw
          case rel => exact ⟨k + 1, by omega, by go_num, HN, BE5⟩
          case measure => simp [intOf]; omega
    · have HN := Lib.hid (hrec.out.all hkL)
      have HF : Hid (∃ L : List Pt, (0, 0, 0) ∈ L ∧ (∀ x ∈ L, In3 x) ∧ (∀ l ∈ c ++ d, ∀ t ∈ l, TmPts t L) ∧ ∀ p ∈ L, holdsT (chk p.1 p.2.1 p.2.2 ⟨#[]⟩) false c = true → holdsT (chk p.1 p.2.1 p.2.2 ⟨#[]⟩) false d = true) := ⟨L, HP.out.2.1, HP.out.2.2.1, fun l hl t ht => by
        obtain ⟨j, hj⟩ := List.getElem?_of_mem hl
        exact HP.out.2.2.2.1 j l (List.getElem?_eq_some_iff.1 hj).1 hj t ht, HN.out⟩
      go_wp2_with fail
      go_ret
      exact ⟨_, rfl, bwr.out, fun _ => HF.out⟩
end Go.Proofs.YtdlpcfhhpjjjmaaDoor

namespace Go.Proofs.YtdlpcfhhpjjjmaaDoor
open Go.RowKit
set_option linter.unusedVariables false
set_option linter.unusedSimpArgs false

theorem PlainAt.free7 {w : World} {g : Nat} {cs : Array Value} (h : PlainAt w g cs) (i : Nat) : w.frozen? ⟨g, i, none⟩ = false := by simp [World.frozen?, show w.heap[g]? = _ from h]
theorem plain_store {w : World} {g : Nat} {x y z : Int} {q n : ByteArray} (h : PlainAt w g (plainC x y z q n)) :
    PlainAt (((((w.setCell ⟨g, 0, none⟩ (.int .u64 x)).setCell ⟨g, 1, none⟩ (.int .u64 y)).setCell ⟨g, 2, none⟩ (.int .u64 z)).setCell ⟨g, 3, none⟩ (.string ⟨#[]⟩)).setCell ⟨g, 4, none⟩ (.string ⟨#[]⟩)) g (plainC x y z ⟨#[]⟩ ⟨#[]⟩) :=
  heap_setCell_same _ g 4 _ _ _ (heap_setCell_same _ g 3 _ _ _ (heap_setCell_same _ g 2 _ _ _ (heap_setCell_same _ g 1 _ _ _ (heap_setCell_same _ g 0 _ _ _ h))))
theorem below_store {w : World} {g B : Nat} (hB : B ≤ g) (a b c d e : Value) (w0 : World) (h : Below B w0 w) :
    Below B w0 (((((w.setCell ⟨g, 0, none⟩ a).setCell ⟨g, 1, none⟩ b).setCell ⟨g, 2, none⟩ c).setCell ⟨g, 3, none⟩ d).setCell ⟨g, 4, none⟩ e) :=
  ((((h.setCell (p := ⟨g, 0, none⟩) hB a).setCell (p := ⟨g, 1, none⟩) hB b).setCell (p := ⟨g, 2, none⟩) hB c).setCell (p := ⟨g, 3, none⟩) hB d).setCell (p := ⟨g, 4, none⟩) hB e
theorem slTwo {w : World} {n : Nat} (hn : n = w.heap.size) {u v : Value} {c d : List (List Tm)} (h : SlOf RTms 1 w u c) (k : SlOf RTms 1 w v d) : SlOf RTmss 1 (w.alloc (.cells #[u, v] 50)) (.slice (some ⟨n, 0, none⟩) 2 2) [c, d] := by
  subst hn
  refine ⟨some ⟨w.heap.size, 0, none⟩, 2, rfl, fun i x hi => ?_⟩
  have hb := (Below.refl w.heap.size w).alloc (Nat.le_refl _) (.cells #[u, v] 50)
  have hcell : ∀ j y, #[u, v].toList[j]? = some y → (w.alloc (.cells #[u, v] 50)).cell? ⟨w.heap.size, j, none⟩ = some y := fun j y hj => by
    have := cells_new w #[u, v] 50 j y hj
    rw [add_head] at this
    exact this
  have h2 := (List.getElem?_eq_some_iff.1 hi).1
  simp at h2
  rcases i with _ | _ | i
  · simp at hi; subst hi
    exact ⟨w.heap.size, 0, [u], rfl, rfl, fun j y hj => by
      have : j = 0 := by have := (List.getElem?_eq_some_iff.1 hj).1; simp at this; omega
      subst this; simp at hj; subst hj; exact hcell 0 u rfl, u, rfl, h.below RTms.mono hb⟩
  · simp at hi; subst hi
    exact ⟨w.heap.size, 0, [v], rfl, rfl, fun j y hj => by
      have : j = 0 := by have := (List.getElem?_eq_some_iff.1 hj).1; simp at this; omega
      subst this; simp at hj; subst hj; exact hcell 1 v rfl, v, rfl, k.below RTms.mono hb⟩
  · omega

theorem allL_in : TmsIn allL := ⟨by decide, fun l hl => by
  unfold allL at hl
  rw [List.mem_singleton] at hl
  subst hl
  refine ⟨by simp, fun t ht => ?_⟩
  rw [List.mem_singleton] at ht
  subst ht
  exact ⟨⟨by show (0 : Int) ≤ 4; decide, by show (4 : Int) ≤ 7; decide⟩, by show (0 : Int) ≤ 3; decide, by show (3 : Int) ≤ 3; decide⟩⟩
theorem allL_checks (x y z : Int) (hx : 0 ≤ x) (hy : 0 ≤ y) : ChecksAre (chk x y z ⟨#[]⟩) x y z ⟨#[]⟩ allL := by
  intro l hl t ht pre
  unfold allL at hl
  rw [List.mem_singleton] at hl
  subst hl
  rw [List.mem_singleton] at ht
  subst ht
  exact chkB_is 4 _ _ _ x y z 0 0 0 ⟨#[]⟩ ⟨#[48]⟩ pre ⟨by decide, by decide⟩ (by show (1 : Nat) ≤ _; omega) (by show (0 : Nat) ≤ _; omega) (by decide) (by decide) hx hy (fun h => by simp at h)

set_option maxRecDepth 100000 in
set_option maxHeartbeats 16000000 in
theorem imply_walk (c d : List (List Tm)) (v1 v2 : Value) (x y z : Int) (q n : ByteArray) (w : World) (hc : Hid (SlOf RTms 1 w v1 c)) (hd : Hid (SlOf RTms 1 w v2 d)) (hN : Hid ((∀ m ∈ c, ∀ t ∈ m, NumT t) ∧ (∀ m ∈ d, ∀ t ∈ m, NumT t) ∧ In3 (x, y, z))) (he : Hid (Errs w)) :
    Calls Tryd.prog 12 #[v1, v2, .agg (plainC x y z q n)] w (BoolPost true w) := by
  obtain ⟨ao, cap, rfl⟩ := hc.out.len
  obtain ⟨ao1, cap1, rfl⟩ := hd.out.len
  go_enter Tryd.func12, Tryd.ntmps12
  go_wp2_with fail
  refine (fits11_any c _ _ (hc.out.below RTms.mono ((Below.refl _ _).alloc (Nat.le_refl _) _))).mono ?_
  rintro e wa ⟨r, rfl, hba, hr⟩
  have ba := ((Below.refl w.heap.size w).alloc (Nat.le_refl _) (.cells (plainC x y z q n) 25)).trans (hba.mono (by simp))
  have hP : Hid (PlainAt wa w.heap.size (plainC x y z q n)) := (plainAt_last w (plainC x y z q n) _ rfl).below8 hba
  clear hba
  cases r with
  | false =>
    go_wp2_with fail
    go_ret
    exact ⟨rfl, ba⟩
  | true =>
    have HFC := Lib.hid (hr rfl)
    clear hr
    go_wp2_with fail
    refine (fits11_any d _ _ (hd.out.below RTms.mono ba)).mono ?_
    rintro e wb ⟨r, rfl, hbb, hr⟩
    have bb := ba.trans (hbb.mono ba.size)
    have hP : Hid (PlainAt wb w.heap.size (plainC x y z q n)) := hP.out.below8 hbb
    clear hbb
    cases r with
    | false =>
      go_wp2_with fail
      go_ret
      exact ⟨rfl, bb⟩
    | true =>
      have HFD := Lib.hid (hr rfl)
      clear hr
      have p0 := hP.out.cell 0
      have p1 := hP.out.cell 1
      have p2 := hP.out.cell 2
      have p3 := hP.out.cell 3
      have p4 := hP.out.cell 4
      obtain ⟨fb, hfb⟩ : ∃ fb, Hid ((decide (q.size ≤ 2147483647) && decide (n.size ≤ 2147483647)) = fb) := ⟨_, rfl⟩
      go_wp2_with fail
      refine (fits14_any x y z q n fb hfb.out _).mono ?_
      rintro e wc ⟨rfl, hwc⟩
      have hbc : Below wb.heap.size wb wc := by rw [hwc]; exact (Below.refl _ _).alloc (Nat.le_refl _) _
      have bc := bb.trans (hbc.mono bb.size)
      have hP : Hid (PlainAt wc w.heap.size (plainC x y z q n)) := hP.out.below8 hbc
      clear hbc hwc p0 p1 p2 p3 p4 ba bb
      cases fb with
      | false =>
        go_wp2_with fail
        go_ret
        exact ⟨rfl, bc⟩
      | true =>
        have p0 := hP.out.cell 0
        have p1 := hP.out.cell 1
        have p2 := hP.out.cell 2
        have p3 := hP.out.cell 3
        have p4 := hP.out.cell 4
        go_wp2_with fail
        refine (bare_im _ _ _ _ _ _).mono ?_
        rintro e wd ⟨rfl, hbd⟩
        have bd := bc.trans (hbd.mono bc.size)
        have hP : Hid (PlainAt wd w.heap.size (plainC x y z q n)) := hP.out.below8 hbd
        clear hbd bc p0 p1 p2 p3 p4
        have p0 := hP.out.cell 0
        have p1 := hP.out.cell 1
        have p2 := hP.out.cell 2
        have p3 := hP.out.cell 3
        have p4 := hP.out.cell 4
        have f0 := hP.out.free7 0
        have f1 := hP.out.free7 1
        have f2 := hP.out.free7 2
        have f3 := hP.out.free7 3
        have f4 := hP.out.free7 4
        have hPs := Lib.hid (plain_store hP.out)
        have bS := Lib.hid (below_store (Nat.le_refl w.heap.size) (.int .u64 x) (.int .u64 y) (.int .u64 z) (.string ⟨#[]⟩) (.string ⟨#[]⟩) w bd)
        go_wp2_with fail
        have hsz : Hid ((((((wd.setCell ⟨w.heap.size, 0, none⟩ (.int .u64 x)).setCell ⟨w.heap.size, 1, none⟩ (.int .u64 y)).setCell ⟨w.heap.size, 2, none⟩ (.int .u64 z)).setCell ⟨w.heap.size, 3, none⟩ (.string ⟨#[]⟩)).setCell ⟨w.heap.size, 4, none⟩ (.string ⟨#[]⟩)).heap.size = wd.heap.size) := by show _ = _; simp
        generalize (((((wd.setCell ⟨w.heap.size, 0, none⟩ (.int .u64 x)).setCell ⟨w.heap.size, 1, none⟩ (.int .u64 y)).setCell ⟨w.heap.size, 2, none⟩ (.int .u64 z)).setCell ⟨w.heap.size, 3, none⟩ (.string ⟨#[]⟩)).setCell ⟨w.heap.size, 4, none⟩ (.string ⟨#[]⟩)) = ws at *
        clear p0 p1 p2 p3 p4 f0 f1 f2 f3 f4 hP bd
        refine (siGood_any [c, d] _ (fun m hm => by
          rcases List.mem_cons.1 hm with h | h
          · rw [h]; exact HFC.out
          · rw [List.mem_singleton.1 h]; exact HFD.out) (by simp) _ (slTwo hsz.out.symm (hc.out.below RTms.mono bS.out) (hd.out.below RTms.mono bS.out))).mono ?_
        rintro e we ⟨r, rfl, hbe, hr⟩
        have hbe2 := ((Below.refl ws.heap.size ws).alloc (Nat.le_refl _) (.cells #[.slice ao c.length cap, .slice ao1 d.length cap1] 50)).trans (hbe.mono (by simp))
        have bE := bS.out.trans (hbe2.mono bS.out.size)
        have hP : Hid (PlainAt we w.heap.size (plainC x y z ⟨#[]⟩ ⟨#[]⟩)) := hPs.out.below8 hbe2
        clear hbe hbe2 hsz hPs bS
        cases r with
        | false =>
          go_wp2_with fail
          go_ret
          exact ⟨rfl, bE⟩
        | true =>
          have HO := Lib.hid (hr rfl)
          clear hr
          have HCc : Hid (OkC 10 c ∧ FitC c ∧ ∀ l ∈ c, ∀ t ∈ l, NumT t) := ⟨HO.out c (by simp), HFC.out, hN.out.1⟩
          have HCd : Hid (OkC 10 d ∧ FitC d ∧ ∀ l ∈ d, ∀ t ∈ l, NumT t) := ⟨HO.out d (by simp), HFD.out, hN.out.2.1⟩
          go_wp2_with fail
          refine (siEach_any c d _ _ _ (hc.out.below RTms.mono bE) (hd.out.below RTms.mono bE) HCc HCd (he.out.below bE)).mono ?_
          rintro e wf ⟨r, rfl, hbf, hr⟩
          have bF := Lib.hid (bE.trans (hbf.mono bE.size))
          have hPf : Hid (PlainAt wf w.heap.size (plainC x y z ⟨#[]⟩ ⟨#[]⟩)) := hP.out.below8 hbf
          clear hbf bE hP
          have hx0 := hN.out.2.2.1.1
          have hy0 := hN.out.2.2.2.1.1
          have HAt := Lib.hid allL_in
          have HAk := Lib.hid (allL_checks x y z hx0 hy0)
          have HAv : Hid (holdsT (chk x y z ⟨#[]⟩) false allL = true) := all_plain (x, y, z) hN.out.2.2
          have HTc := Lib.hid (tmsIn_ok (by omega) HCc.out.1)
          have HTd := Lib.hid (tmsIn_ok (by omega) HCd.out.1)
          have HKc := Lib.hid (checks_chk x y z ⟨#[]⟩ hx0 hy0 (by show (0 : Nat) ≤ 2147483647; omega) HFC.out HCc.out.1 hN.out.1)
          have HKd := Lib.hid (checks_chk x y z ⟨#[]⟩ hx0 hy0 (by show (0 : Nat) ≤ 2147483647; omega) HFD.out HCd.out.1 hN.out.2.1)
          clear hx0 hy0
          cases r with
          | false =>
            clear hr
            go_wp2_with fail
            refine wp_region_held_drew (S := fun w' => Hid (Below wf.heap.size wf w')) (by kernel_rfl) ?_ (fun hHeld => ?_)
            · exact (Below.refl _ _).drew
            refine wpAnyH_take (i := 1) (v := ?_) rfl (by kernel_rfl) (by kernel_rfl) (by kernel_rfl) (fun _ _ _ h => h) (Or.inl ⟨by rfl, ?_⟩) (by assumption) ?_
            rotate_left
            · (intro w hSw; have k0 := (hPf.out.below8 hSw.out).cell 0; have k1 := (hPf.out.below8 hSw.out).cell 1; have k2 := (hPf.out.below8 hSw.out).cell 2; have k3 := (hPf.out.below8 hSw.out).cell 3; have k4 := (hPf.out.below8 hSw.out).cell 4; go_simp; (try with_reducible rfl))
            (try simp only [Act.put, List.getElem_toArray, List.getElem_cons_zero, List.getElem_cons_succ, List.setIfInBounds_toArray, List.set_cons_zero, List.set_cons_succ])
            refine wpAnyH_ready (rs := [0]) (by kernel_rfl) (by simp) ?_
            refine AllReadyH.cons rfl (fun K hK => ?_) AllReadyH.nil
            go_simp
            go_at_call 48
            refine (siAll_any _).mono ?_
            rintro e w8 ⟨v8, rfl, hs8, hb8⟩
            have HS8 := Lib.hid hs8
            have HH := Lib.hid (hHeld.out.trans (hb8.mono hHeld.out.size))
            obtain ⟨ao8, cap8, rfl⟩ := hs8.len
            clear hs8 hb8
            refine hK.out _ _ HH (fun hH2 => ?_)
            clear hK K hHeld hH2
            have hHeld := HH
            clear HH
            (try simp only [Act.put, List.getElem_toArray, List.getElem_cons_zero, List.getElem_cons_succ, List.setIfInBounds_toArray, List.set_cons_zero, List.set_cons_succ])
            refine wpAnyH_ready (rs := [2]) (by kernel_rfl) (by simp) ?_
            refine AllReadyH.cons rfl (fun K hK => ?_) AllReadyH.nil
            go_simp
            go_at_call 47
            refine (termsHold_any (chk x y z ⟨#[]⟩) allL _ x y z ⟨#[]⟩ ⟨#[]⟩ false _ HS8 (he.out.below (bF.out.trans (hHeld.out.mono bF.out.size))) HAt HAk).mono ?_
            rintro e w' ⟨ev, hb1⟩
            rw [HAv.out] at ev
            subst ev
            have HH := Lib.hid (hHeld.out.trans (hb1.mono hHeld.out.size))
            clear hb1
            refine hK.out _ _ HH (fun hH2 => ?_)
            clear hK K hHeld hH2
            have hHeld := HH
            clear HH
            (try simp only [Act.put, List.getElem_toArray, List.getElem_cons_zero, List.getElem_cons_succ, List.setIfInBounds_toArray, List.set_cons_zero, List.set_cons_succ])
            refine wpAnyH_ready (rs := [3]) (by kernel_rfl) (by simp) ?_
            refine AllReadyH.cons rfl (fun K hK => ?_) AllReadyH.nil
            go_simp
            refine hK.out _ _ hHeld (fun hH2 => ?_)
            clear hK K hH2
            (try simp only [Act.put, List.getElem_toArray, List.getElem_cons_zero, List.getElem_cons_succ, List.setIfInBounds_toArray, List.set_cons_zero, List.set_cons_succ])
            refine wpAnyH_done (by kernel_rfl) ?_ _
            go_wp2_with fail
            go_ret
            exact ⟨rfl, bF.out.trans (hHeld.out.mono bF.out.size)⟩
          | true =>
            obtain ⟨L, q1, q2, q3, q4⟩ := hr rfl
            have HIM := Lib.hid (imp_plain c d L (x, y, z) hN.out.2.2 HCc.out.1 HCd.out.1 (fun l hl t ht => by obtain ⟨n1, n2, n3⟩ := hN.out.1 l hl t ht; exact ⟨wf0 n1, wf0 n2, wf0 n3⟩) (fun l hl t ht => by obtain ⟨n1, n2, n3⟩ := hN.out.2.1 l hl t ht; exact ⟨wf0 n1, wf0 n2, wf0 n3⟩) q1 q2 q3 q4)
            clear hr q1 q2 q3 q4
            obtain ⟨X, HX⟩ : ∃ X, Hid (holdsT (chk x y z ⟨#[]⟩) false c = X) := ⟨_, rfl⟩
            go_wp2_with fail
            cases X with
            | false =>
              refine wp_region_held_drew (S := fun w' => Hid (Below wf.heap.size wf w')) (by kernel_rfl) ?_ (fun hHeld => ?_)
              · exact (Below.refl _ _).drew
              refine wpAnyH_take (i := 0) (v := ?_) rfl (by kernel_rfl) (by kernel_rfl) (by kernel_rfl) (fun _ _ _ h => h) (Or.inl ⟨by rfl, ?_⟩) (by assumption) ?_
              rotate_left
              · (intro w hSw; go_simp; (try with_reducible rfl))
              (try simp only [Act.put, List.getElem_toArray, List.getElem_cons_zero, List.getElem_cons_succ, List.setIfInBounds_toArray, List.set_cons_zero, List.set_cons_succ])
              refine wpAnyH_take (i := 1) (v := ?_) rfl (by kernel_rfl) (by kernel_rfl) (by kernel_rfl) (fun _ _ _ h => h) (Or.inl ⟨by rfl, ?_⟩) (by assumption) ?_
              rotate_left
              · (intro w hSw; have k0 := (hPf.out.below8 hSw.out).cell 0; have k1 := (hPf.out.below8 hSw.out).cell 1; have k2 := (hPf.out.below8 hSw.out).cell 2; have k3 := (hPf.out.below8 hSw.out).cell 3; have k4 := (hPf.out.below8 hSw.out).cell 4; go_simp; (try with_reducible rfl))
              (try simp only [Act.put, List.getElem_toArray, List.getElem_cons_zero, List.getElem_cons_succ, List.setIfInBounds_toArray, List.set_cons_zero, List.set_cons_succ])
              refine wpAnyH_ready (rs := [2]) (by kernel_rfl) (by simp) ?_
              refine AllReadyH.cons rfl (fun K hK => ?_) AllReadyH.nil
              go_simp
              go_at_call 47
              refine (termsHold_any (chk x y z ⟨#[]⟩) c _ x y z ⟨#[]⟩ ⟨#[]⟩ false _ (hc.out.below RTms.mono (bF.out.trans (hHeld.out.mono bF.out.size))) (he.out.below (bF.out.trans (hHeld.out.mono bF.out.size))) HTc HKc).mono ?_
              rintro e w' ⟨ev, hb1⟩
              rw [HX.out] at ev
              subst ev
              have HH := Lib.hid (hHeld.out.trans (hb1.mono hHeld.out.size))
              clear hb1
              refine hK.out _ _ HH (fun hH2 => ?_)
              clear hK K hHeld hH2
              have hHeld := HH
              clear HH
              (try simp only [Act.put, List.getElem_toArray, List.getElem_cons_zero, List.getElem_cons_succ, List.setIfInBounds_toArray, List.set_cons_zero, List.set_cons_succ])
              refine wpAnyH_take (i := 3) (v := ?_) rfl (by kernel_rfl) (by kernel_rfl) (by kernel_rfl) (fun _ _ _ h => h) (Or.inl ⟨by rfl, ?_⟩) (by assumption) ?_
              rotate_left
              · (intro w hSw; go_simp; (try with_reducible rfl))
              (try simp only [Act.put, List.getElem_toArray, List.getElem_cons_zero, List.getElem_cons_succ, List.setIfInBounds_toArray, List.set_cons_zero, List.set_cons_succ])
              refine wpAnyH_take (i := 4) (v := ?_) rfl (by kernel_rfl) (by kernel_rfl) (by kernel_rfl) (fun _ _ _ h => h) (Or.inl ⟨by rfl, ?_⟩) (by assumption) ?_
              rotate_left
              · (intro w hSw; go_simp; (try with_reducible rfl))
              (try simp only [Act.put, List.getElem_toArray, List.getElem_cons_zero, List.getElem_cons_succ, List.setIfInBounds_toArray, List.set_cons_zero, List.set_cons_succ])
              refine wpAnyH_take (i := 5) (v := undef) rfl (by kernel_rfl) (by kernel_rfl) (by kernel_rfl) (fun _ _ _ h => h) (Or.inr ⟨by rfl, rfl⟩) (by assumption) ?_
              (try simp only [Act.put, List.getElem_toArray, List.getElem_cons_zero, List.getElem_cons_succ, List.setIfInBounds_toArray, List.set_cons_zero, List.set_cons_succ])
              refine wpAnyH_take (i := 6) (v := undef) rfl (by kernel_rfl) (by kernel_rfl) (by kernel_rfl) (fun _ _ _ h => h) (Or.inr ⟨by rfl, rfl⟩) (by assumption) ?_
              (try simp only [Act.put, List.getElem_toArray, List.getElem_cons_zero, List.getElem_cons_succ, List.setIfInBounds_toArray, List.set_cons_zero, List.set_cons_succ])
              refine wpAnyH_take (i := 7) (v := undef) rfl (by kernel_rfl) (by kernel_rfl) (by kernel_rfl) (fun _ _ _ h => h) (Or.inr ⟨by rfl, rfl⟩) (by assumption) ?_
              (try simp only [Act.put, List.getElem_toArray, List.getElem_cons_zero, List.getElem_cons_succ, List.setIfInBounds_toArray, List.set_cons_zero, List.set_cons_succ])
              refine wpAnyH_take (i := 8) (v := ?_) rfl (by kernel_rfl) (by kernel_rfl) (by kernel_rfl) (fun _ _ _ h => h) (Or.inl ⟨by rfl, ?_⟩) (by assumption) ?_
              rotate_left
              · (intro w hSw; go_simp; (try with_reducible rfl))
              (try simp only [Act.put, List.getElem_toArray, List.getElem_cons_zero, List.getElem_cons_succ, List.setIfInBounds_toArray, List.set_cons_zero, List.set_cons_succ])
              refine wpAnyH_take (i := 9) (v := ?_) rfl (by kernel_rfl) (by kernel_rfl) (by kernel_rfl) (fun _ _ _ h => h) (Or.inl ⟨by rfl, ?_⟩) (by assumption) ?_
              rotate_left
              · (intro w hSw; go_simp; (try with_reducible rfl))
              (try simp only [Act.put, List.getElem_toArray, List.getElem_cons_zero, List.getElem_cons_succ, List.setIfInBounds_toArray, List.set_cons_zero, List.set_cons_succ])
              refine wpAnyH_take (i := 11) (v := ?_) rfl (by kernel_rfl) (by kernel_rfl) (by kernel_rfl) (fun _ _ _ h => h) (Or.inl ⟨by rfl, ?_⟩) (by assumption) ?_
              rotate_left
              · (intro w hSw; have k0 := (hPf.out.below8 hSw.out).cell 0; have k1 := (hPf.out.below8 hSw.out).cell 1; have k2 := (hPf.out.below8 hSw.out).cell 2; have k3 := (hPf.out.below8 hSw.out).cell 3; have k4 := (hPf.out.below8 hSw.out).cell 4; go_simp; (try with_reducible rfl))
              (try simp only [Act.put, List.getElem_toArray, List.getElem_cons_zero, List.getElem_cons_succ, List.setIfInBounds_toArray, List.set_cons_zero, List.set_cons_succ])
              refine wpAnyH_ready (rs := [10]) (by kernel_rfl) (by simp) ?_
              refine AllReadyH.cons rfl (fun K hK => ?_) AllReadyH.nil
              go_simp
              go_at_call 48
              refine (siAll_any _).mono ?_
              rintro e w8 ⟨v8, rfl, hs8, hb8⟩
              have HS8 := Lib.hid hs8
              have HH := Lib.hid (hHeld.out.trans (hb8.mono hHeld.out.size))
              obtain ⟨ao8, cap8, rfl⟩ := hs8.len
              clear hs8 hb8
              refine hK.out _ _ HH (fun hH2 => ?_)
              clear hK K hHeld hH2
              have hHeld := HH
              clear HH
              (try simp only [Act.put, List.getElem_toArray, List.getElem_cons_zero, List.getElem_cons_succ, List.setIfInBounds_toArray, List.set_cons_zero, List.set_cons_succ])
              refine wpAnyH_ready (rs := [12]) (by kernel_rfl) (by simp) ?_
              refine AllReadyH.cons rfl (fun K hK => ?_) AllReadyH.nil
              go_simp
              go_at_call 47
              refine (termsHold_any (chk x y z ⟨#[]⟩) allL _ x y z ⟨#[]⟩ ⟨#[]⟩ false _ HS8 (he.out.below (bF.out.trans (hHeld.out.mono bF.out.size))) HAt HAk).mono ?_
              rintro e w' ⟨ev, hb1⟩
              rw [HAv.out] at ev
              subst ev
              have HH := Lib.hid (hHeld.out.trans (hb1.mono hHeld.out.size))
              clear hb1
              refine hK.out _ _ HH (fun hH2 => ?_)
              clear hK K hHeld hH2
              have hHeld := HH
              clear HH
              (try simp only [Act.put, List.getElem_toArray, List.getElem_cons_zero, List.getElem_cons_succ, List.setIfInBounds_toArray, List.set_cons_zero, List.set_cons_succ])
              refine wpAnyH_take (i := 13) (v := ?_) rfl (by kernel_rfl) (by kernel_rfl) (by kernel_rfl) (fun _ _ _ h => h) (Or.inl ⟨by rfl, ?_⟩) (by assumption) ?_
              rotate_left
              · (intro w hSw; go_simp; (try with_reducible rfl))
              (try simp only [Act.put, List.getElem_toArray, List.getElem_cons_zero, List.getElem_cons_succ, List.setIfInBounds_toArray, List.set_cons_zero, List.set_cons_succ])
              refine wpAnyH_ready (rs := [14]) (by kernel_rfl) (by simp) ?_
              refine AllReadyH.cons rfl (fun K hK => ?_) AllReadyH.nil
              go_simp
              refine hK.out _ _ hHeld (fun hH2 => ?_)
              clear hK K hH2
              (try simp only [Act.put, List.getElem_toArray, List.getElem_cons_zero, List.getElem_cons_succ, List.setIfInBounds_toArray, List.set_cons_zero, List.set_cons_succ])
              refine wpAnyH_done (by kernel_rfl) ?_ _
              go_wp2_with fail
              go_ret
              exact ⟨rfl, bF.out.trans (hHeld.out.mono bF.out.size)⟩
            | true =>
              have HY : Hid (holdsT (chk x y z ⟨#[]⟩) false d = true) := HIM.out HX.out
              refine wp_region_held_drew (S := fun w' => Hid (Below wf.heap.size wf w')) (by kernel_rfl) ?_ (fun hHeld => ?_)
              · exact (Below.refl _ _).drew
              refine wpAnyH_take (i := 0) (v := ?_) rfl (by kernel_rfl) (by kernel_rfl) (by kernel_rfl) (fun _ _ _ h => h) (Or.inl ⟨by rfl, ?_⟩) (by assumption) ?_
              rotate_left
              · (intro w hSw; go_simp; (try with_reducible rfl))
              (try simp only [Act.put, List.getElem_toArray, List.getElem_cons_zero, List.getElem_cons_succ, List.setIfInBounds_toArray, List.set_cons_zero, List.set_cons_succ])
              refine wpAnyH_take (i := 1) (v := ?_) rfl (by kernel_rfl) (by kernel_rfl) (by kernel_rfl) (fun _ _ _ h => h) (Or.inl ⟨by rfl, ?_⟩) (by assumption) ?_
              rotate_left
              · (intro w hSw; have k0 := (hPf.out.below8 hSw.out).cell 0; have k1 := (hPf.out.below8 hSw.out).cell 1; have k2 := (hPf.out.below8 hSw.out).cell 2; have k3 := (hPf.out.below8 hSw.out).cell 3; have k4 := (hPf.out.below8 hSw.out).cell 4; go_simp; (try with_reducible rfl))
              (try simp only [Act.put, List.getElem_toArray, List.getElem_cons_zero, List.getElem_cons_succ, List.setIfInBounds_toArray, List.set_cons_zero, List.set_cons_succ])
              refine wpAnyH_ready (rs := [2]) (by kernel_rfl) (by simp) ?_
              refine AllReadyH.cons rfl (fun K hK => ?_) AllReadyH.nil
              go_simp
              go_at_call 47
              refine (termsHold_any (chk x y z ⟨#[]⟩) c _ x y z ⟨#[]⟩ ⟨#[]⟩ false _ (hc.out.below RTms.mono (bF.out.trans (hHeld.out.mono bF.out.size))) (he.out.below (bF.out.trans (hHeld.out.mono bF.out.size))) HTc HKc).mono ?_
              rintro e w' ⟨ev, hb1⟩
              rw [HX.out] at ev
              subst ev
              have HH := Lib.hid (hHeld.out.trans (hb1.mono hHeld.out.size))
              clear hb1
              refine hK.out _ _ HH (fun hH2 => ?_)
              clear hK K hHeld hH2
              have hHeld := HH
              clear HH
              (try simp only [Act.put, List.getElem_toArray, List.getElem_cons_zero, List.getElem_cons_succ, List.setIfInBounds_toArray, List.set_cons_zero, List.set_cons_succ])
              refine wpAnyH_take (i := 3) (v := ?_) rfl (by kernel_rfl) (by kernel_rfl) (by kernel_rfl) (fun _ _ _ h => h) (Or.inl ⟨by rfl, ?_⟩) (by assumption) ?_
              rotate_left
              · (intro w hSw; go_simp; (try with_reducible rfl))
              (try simp only [Act.put, List.getElem_toArray, List.getElem_cons_zero, List.getElem_cons_succ, List.setIfInBounds_toArray, List.set_cons_zero, List.set_cons_succ])
              refine wpAnyH_take (i := 4) (v := ?_) rfl (by kernel_rfl) (by kernel_rfl) (by kernel_rfl) (fun _ _ _ h => h) (Or.inl ⟨by rfl, ?_⟩) (by assumption) ?_
              rotate_left
              · (intro w hSw; go_simp; (try with_reducible rfl))
              (try simp only [Act.put, List.getElem_toArray, List.getElem_cons_zero, List.getElem_cons_succ, List.setIfInBounds_toArray, List.set_cons_zero, List.set_cons_succ])
              refine wpAnyH_take (i := 5) (v := ?_) rfl (by kernel_rfl) (by kernel_rfl) (by kernel_rfl) (fun _ _ _ h => h) (Or.inl ⟨by rfl, ?_⟩) (by assumption) ?_
              rotate_left
              · (intro w hSw; go_simp; (try with_reducible rfl))
              (try simp only [Act.put, List.getElem_toArray, List.getElem_cons_zero, List.getElem_cons_succ, List.setIfInBounds_toArray, List.set_cons_zero, List.set_cons_succ])
              refine wpAnyH_take (i := 6) (v := ?_) rfl (by kernel_rfl) (by kernel_rfl) (by kernel_rfl) (fun _ _ _ h => h) (Or.inl ⟨by rfl, ?_⟩) (by assumption) ?_
              rotate_left
              · (intro w hSw; have k0 := (hPf.out.below8 hSw.out).cell 0; have k1 := (hPf.out.below8 hSw.out).cell 1; have k2 := (hPf.out.below8 hSw.out).cell 2; have k3 := (hPf.out.below8 hSw.out).cell 3; have k4 := (hPf.out.below8 hSw.out).cell 4; go_simp; (try with_reducible rfl))
              (try simp only [Act.put, List.getElem_toArray, List.getElem_cons_zero, List.getElem_cons_succ, List.setIfInBounds_toArray, List.set_cons_zero, List.set_cons_succ])
              refine wpAnyH_ready (rs := [7]) (by kernel_rfl) (by simp) ?_
              refine AllReadyH.cons rfl (fun K hK => ?_) AllReadyH.nil
              go_simp
              go_at_call 47
              refine (termsHold_any (chk x y z ⟨#[]⟩) d _ x y z ⟨#[]⟩ ⟨#[]⟩ false _ (hd.out.below RTms.mono (bF.out.trans (hHeld.out.mono bF.out.size))) (he.out.below (bF.out.trans (hHeld.out.mono bF.out.size))) HTd HKd).mono ?_
              rintro e w' ⟨ev, hb1⟩
              rw [HY.out] at ev
              subst ev
              have HH := Lib.hid (hHeld.out.trans (hb1.mono hHeld.out.size))
              clear hb1
              refine hK.out _ _ HH (fun hH2 => ?_)
              clear hK K hHeld hH2
              have hHeld := HH
              clear HH
              (try simp only [Act.put, List.getElem_toArray, List.getElem_cons_zero, List.getElem_cons_succ, List.setIfInBounds_toArray, List.set_cons_zero, List.set_cons_succ])
              refine wpAnyH_take (i := 8) (v := ?_) rfl (by kernel_rfl) (by kernel_rfl) (by kernel_rfl) (fun _ _ _ h => h) (Or.inl ⟨by rfl, ?_⟩) (by assumption) ?_
              rotate_left
              · (intro w hSw; go_simp; (try with_reducible rfl))
              (try simp only [Act.put, List.getElem_toArray, List.getElem_cons_zero, List.getElem_cons_succ, List.setIfInBounds_toArray, List.set_cons_zero, List.set_cons_succ])
              refine wpAnyH_take (i := 9) (v := ?_) rfl (by kernel_rfl) (by kernel_rfl) (by kernel_rfl) (fun _ _ _ h => h) (Or.inl ⟨by rfl, ?_⟩) (by assumption) ?_
              rotate_left
              · (intro w hSw; go_simp; (try with_reducible rfl))
              (try simp only [Act.put, List.getElem_toArray, List.getElem_cons_zero, List.getElem_cons_succ, List.setIfInBounds_toArray, List.set_cons_zero, List.set_cons_succ])
              refine wpAnyH_take (i := 11) (v := ?_) rfl (by kernel_rfl) (by kernel_rfl) (by kernel_rfl) (fun _ _ _ h => h) (Or.inl ⟨by rfl, ?_⟩) (by assumption) ?_
              rotate_left
              · (intro w hSw; have k0 := (hPf.out.below8 hSw.out).cell 0; have k1 := (hPf.out.below8 hSw.out).cell 1; have k2 := (hPf.out.below8 hSw.out).cell 2; have k3 := (hPf.out.below8 hSw.out).cell 3; have k4 := (hPf.out.below8 hSw.out).cell 4; go_simp; (try with_reducible rfl))
              (try simp only [Act.put, List.getElem_toArray, List.getElem_cons_zero, List.getElem_cons_succ, List.setIfInBounds_toArray, List.set_cons_zero, List.set_cons_succ])
              refine wpAnyH_ready (rs := [10]) (by kernel_rfl) (by simp) ?_
              refine AllReadyH.cons rfl (fun K hK => ?_) AllReadyH.nil
              go_simp
              go_at_call 48
              refine (siAll_any _).mono ?_
              rintro e w8 ⟨v8, rfl, hs8, hb8⟩
              have HS8 := Lib.hid hs8
              have HH := Lib.hid (hHeld.out.trans (hb8.mono hHeld.out.size))
              obtain ⟨ao8, cap8, rfl⟩ := hs8.len
              clear hs8 hb8
              refine hK.out _ _ HH (fun hH2 => ?_)
              clear hK K hHeld hH2
              have hHeld := HH
              clear HH
              (try simp only [Act.put, List.getElem_toArray, List.getElem_cons_zero, List.getElem_cons_succ, List.setIfInBounds_toArray, List.set_cons_zero, List.set_cons_succ])
              refine wpAnyH_ready (rs := [12]) (by kernel_rfl) (by simp) ?_
              refine AllReadyH.cons rfl (fun K hK => ?_) AllReadyH.nil
              go_simp
              go_at_call 47
              refine (termsHold_any (chk x y z ⟨#[]⟩) allL _ x y z ⟨#[]⟩ ⟨#[]⟩ false _ HS8 (he.out.below (bF.out.trans (hHeld.out.mono bF.out.size))) HAt HAk).mono ?_
              rintro e w' ⟨ev, hb1⟩
              rw [HAv.out] at ev
              subst ev
              have HH := Lib.hid (hHeld.out.trans (hb1.mono hHeld.out.size))
              clear hb1
              refine hK.out _ _ HH (fun hH2 => ?_)
              clear hK K hHeld hH2
              have hHeld := HH
              clear HH
              (try simp only [Act.put, List.getElem_toArray, List.getElem_cons_zero, List.getElem_cons_succ, List.setIfInBounds_toArray, List.set_cons_zero, List.set_cons_succ])
              refine wpAnyH_take (i := 13) (v := ?_) rfl (by kernel_rfl) (by kernel_rfl) (by kernel_rfl) (fun _ _ _ h => h) (Or.inl ⟨by rfl, ?_⟩) (by assumption) ?_
              rotate_left
              · (intro w hSw; go_simp; (try with_reducible rfl))
              (try simp only [Act.put, List.getElem_toArray, List.getElem_cons_zero, List.getElem_cons_succ, List.setIfInBounds_toArray, List.set_cons_zero, List.set_cons_succ])
              refine wpAnyH_ready (rs := [14]) (by kernel_rfl) (by simp) ?_
              refine AllReadyH.cons rfl (fun K hK => ?_) AllReadyH.nil
              go_simp
              refine hK.out _ _ hHeld (fun hH2 => ?_)
              clear hK K hH2
              (try simp only [Act.put, List.getElem_toArray, List.getElem_cons_zero, List.getElem_cons_succ, List.setIfInBounds_toArray, List.set_cons_zero, List.set_cons_succ])
              refine wpAnyH_done (by kernel_rfl) ?_ _
              go_wp2_with fail
              go_ret
              exact ⟨rfl, bF.out.trans (hHeld.out.mono bF.out.size)⟩

theorem imply_law (c : List (List Tm)) (v1 : Value) (d : List (List Tm)) (v2 : Value) (x y z : Int) (q n : ByteArray) (_wx : (Lit.int .u64 x).wf = true) (_wy : (Lit.int .u64 y).wf = true) (_wz : (Lit.int .u64 z).wf = true) (_wq : q.size ≤ maxLen) (_wn : n.size ≤ maxLen) (w : World) (he : Hid (Errs w)) (hc : SlOf RTms 1 w v1 c) (hN : ∀ m ∈ c, ∀ t ∈ m, NumT t) (hd : SlOf RTms 1 w v2 d) (hM : ∀ m ∈ d, ∀ t ∈ m, NumT t) :
    Calls Tryd.prog 12 #[v1, v2, .agg #[.int .u64 x, .int .u64 y, .int .u64 z, .string q, .string n]] w fun e w' => e = .returned (.bool true) ∧ Below w.heap.size w w' :=
  imply_walk c d v1 v2 x y z q n w hc hd ⟨hN, hM, wf0 _wx, wf0 _wy, wf0 _wz⟩ he
end Go.Proofs.YtdlpcfhhpjjjmaaDoor
