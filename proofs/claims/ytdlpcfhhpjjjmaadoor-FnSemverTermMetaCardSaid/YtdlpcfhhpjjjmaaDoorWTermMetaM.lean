/- laws.FnSemverTermMeta returns true for every input: != and ^ whole, check at the texts of four operators, the walk, the law. -/
import Derived.Test.YtdlpcfhhpjjjmaaDoorConNeq
import Derived.Test.YtdlpcfhhpjjjmaaDoorConNeqA
import Derived.Test.YtdlpcfhhpjjjmaaDoorConNeqP
import Derived.Test.YtdlpcfhhpjjjmaaDoorConNeqQ
import Derived.Test.YtdlpcfhhpjjjmaaDoorConCar
import Derived.Test.YtdlpcfhhpjjjmaaDoorConCarB
import Derived.Test.YtdlpcfhhpjjjmaaDoorOps
import Derived.Test.YtdlpcfhhpjjjmaaDoorConMst
import Derived.Test.YtdlpcfhhpjjjmaaDoorTermHolds
import Derived.Test.YtdlpcfhhpjjjmaaDoorStHolds
import Derived.Test.YtdlpcfhhpjjjmaaDoorSvGoods
import Derived.Test.YtdlpcfhhpjjjmaaDoorLaidErr
import Derived.Test.YtdlpcfhhpjjjmaaDoorAsk
namespace Go.Proofs.YtdlpcfhhpjjjmaaDoor
open Go.RowKit
set_option linter.unusedVariables false
set_option linter.unusedSimpArgs false

theorem row2 (W : World) (g : Nat) (hn : g = W.heap.size) (v1 v2 : VP) : RowAt (W.alloc (.cells #[.int .u64 v1.1, .int .u64 v1.2.1, .int .u64 v1.2.2.1, .string v1.2.2.2.1, .string v1.2.2.2.2, .int .u64 v2.1, .int .u64 v2.2.1, .int .u64 v2.2.2.1, .string v2.2.2.2.1, .string v2.2.2.2.2] 25)) g [v1, v2] := by
  intro i hi
  rcases i with _ | _ | i
  · exact ⟨(plainAt_last W _ g hn).cell 0, (plainAt_last W _ g hn).cell 1, (plainAt_last W _ g hn).cell 2, (plainAt_last W _ g hn).cell 3, (plainAt_last W _ g hn).cell 4⟩
  · exact ⟨(plainAt_last W _ g hn).cell 5, (plainAt_last W _ g hn).cell 6, (plainAt_last W _ g hn).cell 7, (plainAt_last W _ g hn).cell 8, (plainAt_last W _ g hn).cell 9⟩
  · exact absurd hi (by show ¬ i + 1 + 1 < 2; omega)

theorem partI_self9 (s : ByteArray) : partI s s = 0 := by
  unfold partI; simp
theorem partsAt_self9 (A : List ByteArray) (k i : Nat) : partsAt A A k i = 0 := by
  induction k generalizing i with
  | zero => rfl
  | succ n ih => rw [partsAt, if_pos (partI_self9 _), ih]
theorem preI_self9 (s : ByteArray) : preI s s = 0 := partsAt_self9 _ _ _
theorem segI_self9 (a : Int) : segI a a = 0 := by unfold segI; simp
theorem cmpI_self9 (a b c : Int) (p : ByteArray) : cmpI a b c p a b c p = 0 := by
  unfold cmpI preC
  rw [segI_self9, segI_self9, segI_self9, preI_self9]
  cases p.toList.isEmpty <;> rfl

/-- What != answers of two prereleases where no patch number is given. -/
def apart (q p : ByteArray) : Bool := bif (q.toList.isEmpty && p.toList.isEmpty) then false else (preI q p != 0)
theorem lE {q : ByteArray} (h : q.toList.isEmpty = true) : q.toList = [] := by simpa using h
theorem nqp_any (g j k : Nat) (x y z a b c : Int) (q n r p m o s : ByteArray) (dy md pd pre : Bool) (w : World) (hg : VerAt w g (verC x y z q n r)) (hj : VerAt w j (verC a b c p m o)) (hk : ConAt w k #[.pointer (some ⟨j, 0, none⟩), .string ⟨#[]⟩, .string s, .bool md, .bool dy, .bool pd]) (hq : q.size ≤ 2147483654) (hp : p.size ≤ 2147483654) (he : Hid (Errs w)) (R : Int) (HR : Hid (cmpI x y z q a b c p = R)) (hne : g ≠ j) (h0 : openP q pre) (hd : dy = true) (hm : md = false) (hpd : pd = true) (hpp : pd = true → p.toList = []) (hx : x = a) (hy : y = b) (hz : z = c ∨ c ≠ z) :
    Calls Tryd.prog 106 #[.pointer (some ⟨g, 0, none⟩), .pointer (some ⟨k, 0, none⟩), .bool pre] w (HoldPost (apart q p) w) := by
  obtain ⟨P, HP⟩ : ∃ P, Hid (preI q p = P) := ⟨_, rfl⟩
  unfold apart
  rw [HP.out]
  have hqp : (q.toList.isEmpty = false ∧ pre = true) ∨ q.toList = [] := by
    rcases h0 with h | h
    · exact .inr h
    · exact .inl h
  have hd0 := hd
  have hm0 := hm
  have hp0 := hpd
  rcases hqp with ⟨h1, h2⟩ | h1
  · rw [h1]
    cases hr : (P != 0) with
    | true =>
      rcases hz with hz | hz
      · exact nq_pe_q1 g j k x y z a b c q n r p m o s dy md pd pre w hg hj hk hq hp he R HR hne h1 h2 hd hx hy hm hz hpd P HP (by simpa using hr)
      · exact nq_pn_q1 g j k x y z a b c q n r p m o s dy md pd pre w hg hj hk hq hp he R HR hne h1 h2 hd hx hy hm hz hpd P HP (by simpa using hr)
    | false =>
      rcases hz with hz | hz
      · exact nq_pe_q0 g j k x y z a b c q n r p m o s dy md pd pre w hg hj hk hq hp he R HR hne h1 h2 hd hx hy hm hz hpd P HP (by simpa using hr)
      · exact nq_pn_q0 g j k x y z a b c q n r p m o s dy md pd pre w hg hj hk hq hp he R HR hne h1 h2 hd hx hy hm hz hpd P HP (by simpa using hr)
  · have hpe := hpp hpd
    rw [h1, hpe]
    rcases hz with hz | hz
    · exact nq_pe_0 g j k x y z a b c q n r p m o s dy md pd pre w hg hj hk hq hp he R HR hne h1 hd hx hy hm hz hpd hpe
    · exact nq_pn_0 g j k x y z a b c q n r p m o s dy md pd pre w hg hj hk hq hp he R HR hne h1 hd hx hy hm hz hpd hpe

/-- What != answers. -/
def notV (dy md pd xe ye ze pr r0 : Bool) : Bool := bif dy then (bif xe then (bif md then false else bif ye then (bif pd then pr else bif ze then r0 else true) else true) else true) else r0

theorem neq_any (g j k : Nat) (x y z a b c : Int) (q n r p m o s : ByteArray) (dy md pd pre : Bool) (w : World) (hg : VerAt w g (verC x y z q n r)) (hj : VerAt w j (verC a b c p m o)) (hk : ConAt w k #[.pointer (some ⟨j, 0, none⟩), .string ⟨#[]⟩, .string s, .bool md, .bool dy, .bool pd]) (hq : q.size ≤ 2147483654) (hp : p.size ≤ 2147483654) (he : Hid (Errs w)) (hne : g ≠ j) (hpp : pd = true → p.toList = []) (hsh : q.toList.isEmpty = false → pre = false → Calls Tryd.prog 106 #[.pointer (some ⟨g, 0, none⟩), .pointer (some ⟨k, 0, none⟩), .bool pre] w (HoldPost false w)) :
    Calls Tryd.prog 106 #[.pointer (some ⟨g, 0, none⟩), .pointer (some ⟨k, 0, none⟩), .bool pre] w (HoldPost (shutB q.toList.isEmpty pre (notV dy md pd (decide (x = a)) (decide (y = b)) (decide (z = c)) (apart q p) ((cmpI x y z q a b c p) != 0))) w) := by
  obtain ⟨R, HR⟩ : ∃ R, Hid (cmpI x y z q a b c p = R) := ⟨_, rfl⟩
  rw [HR.out]
  rcases open_or q pre with h0 | ⟨h1, h2⟩
  · rw [shut_open q pre _ h0]
    cases hd : dy with
    | false =>
      subst hd
      cases hr : (R != 0) with
      | true => exact nq_d0 g j k x y z a b c q n r p m o s false md pd pre w hg hj hk hq hp he R HR hne h0 rfl (by simpa using hr)
      | false => exact nq_d1 g j k x y z a b c q n r p m o s false md pd pre w hg hj hk hq hp he R HR hne h0 rfl (by simpa using hr)
    | true =>
      subst hd
      by_cases hx : x = a
      · rw [decide_eq_true hx]
        cases hm : md with
        | true =>
          subst hm
          by_cases hy : y = b
          · rw [decide_eq_true hy]; exact nq_mt g j k x y z a b c q n r p m o s true true pd pre w hg hj hk hq hp he R HR hne h0 rfl hx hy rfl
          · rw [decide_eq_false hy]; exact nq_yt g j k x y z a b c q n r p m o s true true pd pre w hg hj hk hq hp he R HR hne h0 rfl hx (fun e => hy e.symm) rfl
        | false =>
          subst hm
          by_cases hy : y = b
          · rw [decide_eq_true hy]
            cases hp2 : pd with
            | true =>
              subst hp2
              by_cases hz : z = c
              · rw [decide_eq_true hz]; exact nqp_any g j k x y z a b c q n r p m o s true false true pre w hg hj hk hq hp he R HR hne h0 rfl rfl rfl hpp hx hy (.inl hz)
              · rw [decide_eq_false hz]; exact nqp_any g j k x y z a b c q n r p m o s true false true pre w hg hj hk hq hp he R HR hne h0 rfl rfl rfl hpp hx hy (.inr (fun e => hz e.symm))
            | false =>
              subst hp2
              by_cases hz : z = c
              · rw [decide_eq_true hz]
                cases hr : (R != 0) with
                | true => exact nq_e0 g j k x y z a b c q n r p m o s true false false pre w hg hj hk hq hp he R HR hne h0 rfl hx hy rfl hz rfl (by simpa using hr)
                | false => exact nq_e1 g j k x y z a b c q n r p m o s true false false pre w hg hj hk hq hp he R HR hne h0 rfl hx hy rfl hz rfl (by simpa using hr)
              · rw [decide_eq_false hz]; exact nq_zf g j k x y z a b c q n r p m o s true false false pre w hg hj hk hq hp he R HR hne h0 rfl hx hy rfl (fun e => hz e.symm) rfl
          · rw [decide_eq_false hy]; exact nq_yf g j k x y z a b c q n r p m o s true false pd pre w hg hj hk hq hp he R HR hne h0 rfl hx (fun e => hy e.symm) rfl
      · rw [decide_eq_false hx]; exact nq_x g j k x y z a b c q n r p m o s true md pd pre w hg hj hk hq hp he R HR hne h0 rfl (fun e => hx e.symm)
  · rw [shut_shut q pre _ h1 h2]
    exact hsh h1 h2

/-- What ^ answers. -/
def caretV (lo ap md xa xp bp pd yb yp zc : Bool) : Bool := bif lo then false else bif (ap || md) then xa else bif xp then false else bif (bp || pd) then yb else bif yp then false else zc

theorem car_any (g j k : Nat) (x y z a b c : Int) (q n r p m o s : ByteArray) (dy md pd pre : Bool) (w : World) (hg : VerAt w g (verC x y z q n r)) (hj : VerAt w j (verC a b c p m o)) (hk : ConAt w k #[.pointer (some ⟨j, 0, none⟩), .string ⟨#[]⟩, .string s, .bool md, .bool dy, .bool pd]) (hq : q.size ≤ 2147483654) (hp : p.size ≤ 2147483654) (he : Hid (Errs w)) (ha0 : 0 ≤ a) (hb0 : 0 ≤ b) (hx0 : 0 ≤ x) (hy0 : 0 ≤ y) (hsh : q.toList.isEmpty = false → pre = false → Calls Tryd.prog 110 #[.pointer (some ⟨g, 0, none⟩), .pointer (some ⟨k, 0, none⟩), .bool pre] w (HoldPost false w)) :
    Calls Tryd.prog 110 #[.pointer (some ⟨g, 0, none⟩), .pointer (some ⟨k, 0, none⟩), .bool pre] w (HoldPost (shutB q.toList.isEmpty pre (caretV (decide ((cmpI x y z q a b c p) < 0)) (decide (0 < a)) md (decide (x = a)) (decide (0 < x)) (decide (0 < b)) pd (decide (y = b)) (decide (0 < y)) (decide (z = c)))) w) := by
  obtain ⟨R, HR⟩ : ∃ R, Hid (cmpI x y z q a b c p = R) := ⟨_, rfl⟩
  rw [HR.out]
  rcases open_or q pre with h0 | ⟨h1, h2⟩
  · rw [shut_open q pre _ h0]
    by_cases hr : R < 0
    · rw [decide_eq_true hr]; exact car_lo g j k x y z a b c q n r p m o s dy md pd pre w hg hj hk hq hp he R HR h0 hr
    · rw [decide_eq_false hr]
      by_cases ha : 0 < a
      · rw [decide_eq_true ha]
        by_cases hx : x = a
        · rw [decide_eq_true hx]; exact car_a1 g j k x y z a b c q n r p m o s dy md pd pre w hg hj hk hq hp he R HR h0 hr ha hx
        · rw [decide_eq_false hx]; exact car_a0 g j k x y z a b c q n r p m o s dy md pd pre w hg hj hk hq hp he R HR h0 hr ha hx
      · rw [decide_eq_false ha]
        have ha9 : a = 0 := by omega
        cases hm : md with
        | true =>
          subst hm
          by_cases hx : x = a
          · rw [decide_eq_true hx]; exact car_m1 g j k x y z a b c q n r p m o s dy true pd pre w hg hj hk hq hp he R HR h0 hr ha9 rfl (by omega)
          · rw [decide_eq_false hx]; exact car_m0 g j k x y z a b c q n r p m o s dy true pd pre w hg hj hk hq hp he R HR h0 hr ha9 rfl (by omega)
        | false =>
          subst hm
          by_cases hx : 0 < x
          · rw [decide_eq_true hx]; exact car_x g j k x y z a b c q n r p m o s dy false pd pre w hg hj hk hq hp he R HR h0 hr ha9 rfl hx
          · rw [decide_eq_false hx]
            have hx9 : x = 0 := by omega
            by_cases hb : 0 < b
            · rw [decide_eq_true hb]
              by_cases hy : y = b
              · rw [decide_eq_true hy]; exact car_b1 g j k x y z a b c q n r p m o s dy false pd pre w hg hj hk hq hp he R HR h0 hr ha9 rfl hx9 hb hy
              · rw [decide_eq_false hy]; exact car_b0 g j k x y z a b c q n r p m o s dy false pd pre w hg hj hk hq hp he R HR h0 hr ha9 rfl hx9 hb hy
            · rw [decide_eq_false hb]
              have hb9 : b = 0 := by omega
              cases hp2 : pd with
              | true =>
                subst hp2
                by_cases hy : y = b
                · rw [decide_eq_true hy]; exact car_p1 g j k x y z a b c q n r p m o s dy false true pre w hg hj hk hq hp he R HR h0 hr ha9 rfl hx9 hb9 rfl (by omega)
                · rw [decide_eq_false hy]; exact car_p0 g j k x y z a b c q n r p m o s dy false true pre w hg hj hk hq hp he R HR h0 hr ha9 rfl hx9 hb9 rfl (by omega)
              | false =>
                subst hp2
                by_cases hy : 0 < y
                · rw [decide_eq_true hy]; exact car_y g j k x y z a b c q n r p m o s dy false false pre w hg hj hk hq hp he R HR h0 hr ha9 rfl hx9 hb9 rfl hy
                · rw [decide_eq_false hy]
                  have hy9 : y = 0 := by omega
                  by_cases hz : z = c
                  · rw [decide_eq_true hz]; exact car_z1 g j k x y z a b c q n r p m o s dy false false pre w hg hj hk hq hp he R HR h0 hr ha9 rfl hx9 hb9 rfl hy9 hz
                  · rw [decide_eq_false hz]; exact car_z0 g j k x y z a b c q n r p m o s dy false false pre w hg hj hk hq hp he R HR h0 hr ha9 rfl hx9 hb9 rfl hy9 hz
  · rw [shut_shut q pre _ h1 h2]
    exact hsh h1 h2

set_option maxRecDepth 100000 in
set_option maxHeartbeats 1000000 in
theorem checkIs_ne (x y z a b c : Int) (q p : ByteArray) (dy md pd pre : Bool) (hq : q.size ≤ 2147483654) (hp : p.size ≤ 2147483654) (hpp : pd = true → p.toList = []) :
    CheckIs ⟨#[33, 61]⟩ x y z a b c q p dy md pd pre (shutB q.toList.isEmpty pre (notV dy md pd (decide (x = a)) (decide (y = b)) (decide (z = c)) (apart q p) (cmpI x y z q a b c p != 0))) := by
  intro g j k n r m o W hg hj hk hne he
  have H := Lib.hid (neq_any g j k x y z a b c q n r p m o ⟨#[33, 61]⟩ dy md pd pre W hg hj hk hq hp he hne hpp (fun h1 h2 => neq_shut g j k x y z a b c q n r p m o ⟨#[33, 61]⟩ dy md pd pre W hg hj hk hq hp he _ rfl h1 h2))
  generalize shutB q.toList.isEmpty pre _ = T at H ⊢
  have e2 : W.cell? ⟨k, 2, none⟩ = some (.string ⟨#[33, 61]⟩) := hk.cell 2
  go_enter Tryd.func104, Tryd.ntmps104
  go_wp2_with fail
  refine H.out.mono ?_
  rintro e w' ⟨ev, rfl, hb⟩
  go_wp2_with fail
  go_ret2
  exact ⟨_, rfl, hb⟩

set_option maxRecDepth 100000 in
set_option maxHeartbeats 1000000 in
theorem checkIs_le (x y z a b c : Int) (q p : ByteArray) (dy md pd pre : Bool) (hq : q.size ≤ 2147483654) (hp : p.size ≤ 2147483654) :
    CheckIs ⟨#[60, 61]⟩ x y z a b c q p dy md pd pre (shutB q.toList.isEmpty pre (mostV dy md (decide (a < x)) (decide (x < a)) (decide (b < y)) (decide (cmpI x y z q a b c p ≤ 0)))) := by
  intro g j k n r m o W hg hj hk hne he
  have H := Lib.hid (mst_any g j k x y z a b c q n r p m o ⟨#[60, 61]⟩ dy md pd pre W hg hj hk hq hp he (fun h1 h2 => mst_shut g j k x y z a b c q n r p m o ⟨#[60, 61]⟩ dy md pd pre W hg hj hk hq hp he _ rfl h1 h2))
  generalize shutB q.toList.isEmpty pre _ = T at H ⊢
  have e2 : W.cell? ⟨k, 2, none⟩ = some (.string ⟨#[60, 61]⟩) := hk.cell 2
  go_enter Tryd.func104, Tryd.ntmps104
  go_wp2_with fail
  refine H.out.mono ?_
  rintro e w' ⟨ev, rfl, hb⟩
  go_wp2_with fail
  go_ret2
  exact ⟨_, rfl, hb⟩

set_option maxRecDepth 100000 in
set_option maxHeartbeats 1000000 in
theorem checkIs_ti (x y z a b c : Int) (q p : ByteArray) (dy md pd pre : Bool) (hq : q.size ≤ 2147483654) (hp : p.size ≤ 2147483654) :
    CheckIs ⟨#[126]⟩ x y z a b c q p dy md pd pre (tildeB pre q p x y z a b c md pd) := by
  intro g j k n r m o W hg hj hk hne he
  have H := Lib.hid (tilde_any g j k x y z a b c q n r p m o ⟨#[126]⟩ dy md pd pre W hg hj hk hq hp he)
  generalize tildeB pre _ _ _ _ _ _ _ _ _ _ = T at H ⊢
  have e2 : W.cell? ⟨k, 2, none⟩ = some (.string ⟨#[126]⟩) := hk.cell 2
  go_enter Tryd.func104, Tryd.ntmps104
  go_wp2_with fail
  refine H.out.mono ?_
  rintro e w' ⟨ev, rfl, hb⟩
  go_wp2_with fail
  go_ret2
  exact ⟨_, rfl, hb⟩

set_option maxRecDepth 100000 in
set_option maxHeartbeats 1000000 in
theorem checkIs_ca (x y z a b c : Int) (q p : ByteArray) (dy md pd pre : Bool) (hq : q.size ≤ 2147483654) (hp : p.size ≤ 2147483654) (ha0 : 0 ≤ a) (hb0 : 0 ≤ b) (hx0 : 0 ≤ x) (hy0 : 0 ≤ y) :
    CheckIs ⟨#[94]⟩ x y z a b c q p dy md pd pre (shutB q.toList.isEmpty pre (caretV (decide (cmpI x y z q a b c p < 0)) (decide (0 < a)) md (decide (x = a)) (decide (0 < x)) (decide (0 < b)) pd (decide (y = b)) (decide (0 < y)) (decide (z = c)))) := by
  intro g j k n r m o W hg hj hk hne he
  have H := Lib.hid (car_any g j k x y z a b c q n r p m o ⟨#[94]⟩ dy md pd pre W hg hj hk hq hp he ha0 hb0 hx0 hy0 (fun h1 h2 => car_shut g j k x y z a b c q n r p m o ⟨#[94]⟩ dy md pd pre W hg hj hk hq hp he _ rfl h1 h2))
  generalize shutB q.toList.isEmpty pre _ = T at H ⊢
  have e2 : W.cell? ⟨k, 2, none⟩ = some (.string ⟨#[94]⟩) := hk.cell 2
  go_enter Tryd.func104, Tryd.ntmps104
  go_wp2_with fail
  refine H.out.mono ?_
  rintro e w' ⟨ev, rfl, hb⟩
  go_wp2_with fail
  go_ret2
  exact ⟨_, rfl, hb⟩

/-- TermHolds answers r. -/
def TermHoldIs (o g a b c x y z : Int) (p q n : ByteArray) (pre r : Bool) : Prop :=
  ∀ W : World, Hid (Errs W) → Calls Tryd.prog 32 #[.agg (termC o g a b c p), .agg (plainC x y z q n), .bool pre] W (BoolPost r W)
theorem cellB9 {X Y : World} {a : Addr} {v : Value} (hb : Below X.heap.size X Y) (h : X.cell? a = some v) : Y.cell? a = some v := (hb.cell (cellLt h)).trans h

set_option maxRecDepth 100000 in
set_option maxHeartbeats 8000000 in
theorem tmeta_go (o g a b c x y z : Int) (p q n m : ByteArray) (pre : Bool) (hp : p.size ≤ 2147483647) (hq : q.size ≤ 2147483647) (hn : n.size ≤ 2147483647) (hm : m.size ≤ 2147483647) (T : Bool) (HT : Hid (TermOk o g a b c p → TermHoldIs o g a b c x y z p q n pre T ∧ TermHoldIs o g a b c x y z p q m pre T)) (HC : Hid (TermHoldIs 0 3 x y z x y z q q m true true)) (w : World) (he : Hid (Errs w)) :
    Calls Tryd.prog 8 #[.agg (termC o g a b c p), .agg (plainC x y z q n), .string m, .bool pre] w (BoolPost true w) := by
  have hm2 : (2147483647 < ((m.size : Nat) : Int)) = False := by simp; omega
  go_enter Tryd.func8, Tryd.ntmps8
  go_wp2_with fail
  refine (fits13_any o g a b c p true (by simp; omega) _).mono ?_
  rintro e w1 ⟨rfl, rfl⟩
  go_wp2_with fail
  refine (fits14_any x y z q n true (by simp; omega) _).mono ?_
  rintro e w1 ⟨rfl, rfl⟩
  go_wp2_with fail
  refine (svMeta_any x y z q n m _).mono ?_
  rintro e w1 ⟨rfl, rfl⟩
  go_wp2_with fail
  refine (goodTerm_any o g a b c p (by omega) _).mono ?_
  rintro e w1 ⟨r, rfl, hb, hT⟩
  have bk : Below w.heap.size w w1 := Below.trans (by repeat (first | (with_reducible assumption) | (with_reducible exact Below.refl _ _) | (with_reducible refine below_drewN ?_ _) | (with_reducible refine Below.drew ?_) | (with_reducible refine Below.setCell ?_ (by first | omega | (simp <;> omega)) _) | (with_reducible refine Below.alloc ?_ (by first | omega | (simp <;> omega)) _))) (hb.mono (by simp <;> omega))
  have nk : w.heap.size + 7 ≤ w1.heap.size := by have := hb.size; simp at this; omega
  have t0 : w1.cell? ⟨w.heap.size, 0, none⟩ = some (.int .i64 o) := cellB9 hb (keepV (keepV (keepV (keepV (keepV (keepV (TermAt w _ _ rfl 0)))))))
  have t1 : w1.cell? ⟨w.heap.size, 1, none⟩ = some (.int .i64 g) := cellB9 hb (keepV (keepV (keepV (keepV (keepV (keepV (TermAt w _ _ rfl 1)))))))
  have t2 : w1.cell? ⟨w.heap.size, 2, none⟩ = some (.int .u64 a) := cellB9 hb (keepV (keepV (keepV (keepV (keepV (keepV (TermAt w _ _ rfl 2)))))))
  have t3 : w1.cell? ⟨w.heap.size, 3, none⟩ = some (.int .u64 b) := cellB9 hb (keepV (keepV (keepV (keepV (keepV (keepV (TermAt w _ _ rfl 3)))))))
  have t4 : w1.cell? ⟨w.heap.size, 4, none⟩ = some (.int .u64 c) := cellB9 hb (keepV (keepV (keepV (keepV (keepV (keepV (TermAt w _ _ rfl 4)))))))
  have t5 : w1.cell? ⟨w.heap.size, 5, none⟩ = some (.string p) := cellB9 hb (keepV (keepV (keepV (keepV (keepV (keepV (TermAt w _ _ rfl 5)))))))
  have c0 : w1.cell? ⟨w.heap.size + 1, 0, none⟩ = some (.int .u64 x) := cellB9 hb (keepV (keepV (keepV (keepV (keepV ((plainAt_last _ _ _ (by simp)).cell 0))))))
  have c1 : w1.cell? ⟨w.heap.size + 1, 1, none⟩ = some (.int .u64 y) := cellB9 hb (keepV (keepV (keepV (keepV (keepV ((plainAt_last _ _ _ (by simp)).cell 1))))))
  have c2 : w1.cell? ⟨w.heap.size + 1, 2, none⟩ = some (.int .u64 z) := cellB9 hb (keepV (keepV (keepV (keepV (keepV ((plainAt_last _ _ _ (by simp)).cell 2))))))
  have c3 : w1.cell? ⟨w.heap.size + 1, 3, none⟩ = some (.string q) := cellB9 hb (keepV (keepV (keepV (keepV (keepV ((plainAt_last _ _ _ (by simp)).cell 3))))))
  have c4 : w1.cell? ⟨w.heap.size + 1, 4, none⟩ = some (.string n) := cellB9 hb (keepV (keepV (keepV (keepV (keepV ((plainAt_last _ _ _ (by simp)).cell 4))))))
  have d0 : w1.cell? ⟨w.heap.size + 1 + 1 + 1 + 1 + 1 + 1, 0, none⟩ = some (.int .u64 x) := cellB9 hb ((plainAt_last _ _ _ (by simp)).cell 0)
  have d1 : w1.cell? ⟨w.heap.size + 1 + 1 + 1 + 1 + 1 + 1, 1, none⟩ = some (.int .u64 y) := cellB9 hb ((plainAt_last _ _ _ (by simp)).cell 1)
  have d2 : w1.cell? ⟨w.heap.size + 1 + 1 + 1 + 1 + 1 + 1, 2, none⟩ = some (.int .u64 z) := cellB9 hb ((plainAt_last _ _ _ (by simp)).cell 2)
  have d3 : w1.cell? ⟨w.heap.size + 1 + 1 + 1 + 1 + 1 + 1, 3, none⟩ = some (.string q) := cellB9 hb ((plainAt_last _ _ _ (by simp)).cell 3)
  have d4 : w1.cell? ⟨w.heap.size + 1 + 1 + 1 + 1 + 1 + 1, 4, none⟩ = some (.string m) := cellB9 hb ((plainAt_last _ _ _ (by simp)).cell 4)
  clear hb
  cases r with
  | false =>
    go_wp2_with fail
    go_ret
    exact ⟨rfl, (by repeat (first | (with_reducible assumption) | (with_reducible exact Below.refl _ _) | (with_reducible refine below_drewN ?_ _) | (with_reducible refine Below.drew ?_) | (with_reducible refine Below.setCell ?_ (by first | omega | (simp <;> omega)) _) | (with_reducible refine Below.alloc ?_ (by first | omega | (simp <;> omega)) _)))⟩
  | true =>
    have HT2 := HT.out (hT rfl)
    have HA := Lib.hid HT2.1
    have HB := Lib.hid HT2.2
    clear hT HT2 HT
    go_wp2_with fail
    refine (svGood_any _ 2 [(x, y, z, q, n), (x, y, z, q, m)] (by simp) (by simp) (fun i => by rcases i with _ | _ | i <;> first | exact ⟨hq, hn⟩ | exact ⟨hq, hm⟩ | exact ⟨Nat.zero_le _, Nat.zero_le _⟩) _ (by simp) (row2 _ _ (by simp) (x, y, z, q, n) (x, y, z, q, m))).mono ?_
    rintro e w' ⟨rfl, hb⟩
    (have t0 : w'.cell? ⟨w.heap.size, 0, none⟩ = some (.int .i64 o) := (by refine keepB hb (by first | omega | (simp <;> omega)) ?_; (repeat (first | assumption | (with_reducible refine keepD ?_) | (with_reducible refine keepN ?_) | (with_reducible refine keepV ?_)))); have t1 : w'.cell? ⟨w.heap.size, 1, none⟩ = some (.int .i64 g) := (by refine keepB hb (by first | omega | (simp <;> omega)) ?_; (repeat (first | assumption | (with_reducible refine keepD ?_) | (with_reducible refine keepN ?_) | (with_reducible refine keepV ?_)))); have t2 : w'.cell? ⟨w.heap.size, 2, none⟩ = some (.int .u64 a) := (by refine keepB hb (by first | omega | (simp <;> omega)) ?_; (repeat (first | assumption | (with_reducible refine keepD ?_) | (with_reducible refine keepN ?_) | (with_reducible refine keepV ?_)))); have t3 : w'.cell? ⟨w.heap.size, 3, none⟩ = some (.int .u64 b) := (by refine keepB hb (by first | omega | (simp <;> omega)) ?_; (repeat (first | assumption | (with_reducible refine keepD ?_) | (with_reducible refine keepN ?_) | (with_reducible refine keepV ?_)))); have t4 : w'.cell? ⟨w.heap.size, 4, none⟩ = some (.int .u64 c) := (by refine keepB hb (by first | omega | (simp <;> omega)) ?_; (repeat (first | assumption | (with_reducible refine keepD ?_) | (with_reducible refine keepN ?_) | (with_reducible refine keepV ?_)))); have t5 : w'.cell? ⟨w.heap.size, 5, none⟩ = some (.string p) := (by refine keepB hb (by first | omega | (simp <;> omega)) ?_; (repeat (first | assumption | (with_reducible refine keepD ?_) | (with_reducible refine keepN ?_) | (with_reducible refine keepV ?_)))); have c0 : w'.cell? ⟨w.heap.size + 1, 0, none⟩ = some (.int .u64 x) := (by refine keepB hb (by first | omega | (simp <;> omega)) ?_; (repeat (first | assumption | (with_reducible refine keepD ?_) | (with_reducible refine keepN ?_) | (with_reducible refine keepV ?_)))); have c1 : w'.cell? ⟨w.heap.size + 1, 1, none⟩ = some (.int .u64 y) := (by refine keepB hb (by first | omega | (simp <;> omega)) ?_; (repeat (first | assumption | (with_reducible refine keepD ?_) | (with_reducible refine keepN ?_) | (with_reducible refine keepV ?_)))); have c2 : w'.cell? ⟨w.heap.size + 1, 2, none⟩ = some (.int .u64 z) := (by refine keepB hb (by first | omega | (simp <;> omega)) ?_; (repeat (first | assumption | (with_reducible refine keepD ?_) | (with_reducible refine keepN ?_) | (with_reducible refine keepV ?_)))); have c3 : w'.cell? ⟨w.heap.size + 1, 3, none⟩ = some (.string q) := (by refine keepB hb (by first | omega | (simp <;> omega)) ?_; (repeat (first | assumption | (with_reducible refine keepD ?_) | (with_reducible refine keepN ?_) | (with_reducible refine keepV ?_)))); have c4 : w'.cell? ⟨w.heap.size + 1, 4, none⟩ = some (.string n) := (by refine keepB hb (by first | omega | (simp <;> omega)) ?_; (repeat (first | assumption | (with_reducible refine keepD ?_) | (with_reducible refine keepN ?_) | (with_reducible refine keepV ?_)))); have d0 : w'.cell? ⟨w.heap.size + 1 + 1 + 1 + 1 + 1 + 1, 0, none⟩ = some (.int .u64 x) := (by refine keepB hb (by first | omega | (simp <;> omega)) ?_; (repeat (first | assumption | (with_reducible refine keepD ?_) | (with_reducible refine keepN ?_) | (with_reducible refine keepV ?_)))); have d1 : w'.cell? ⟨w.heap.size + 1 + 1 + 1 + 1 + 1 + 1, 1, none⟩ = some (.int .u64 y) := (by refine keepB hb (by first | omega | (simp <;> omega)) ?_; (repeat (first | assumption | (with_reducible refine keepD ?_) | (with_reducible refine keepN ?_) | (with_reducible refine keepV ?_)))); have d2 : w'.cell? ⟨w.heap.size + 1 + 1 + 1 + 1 + 1 + 1, 2, none⟩ = some (.int .u64 z) := (by refine keepB hb (by first | omega | (simp <;> omega)) ?_; (repeat (first | assumption | (with_reducible refine keepD ?_) | (with_reducible refine keepN ?_) | (with_reducible refine keepV ?_)))); have d3 : w'.cell? ⟨w.heap.size + 1 + 1 + 1 + 1 + 1 + 1, 3, none⟩ = some (.string q) := (by refine keepB hb (by first | omega | (simp <;> omega)) ?_; (repeat (first | assumption | (with_reducible refine keepD ?_) | (with_reducible refine keepN ?_) | (with_reducible refine keepV ?_)))); have d4 : w'.cell? ⟨w.heap.size + 1 + 1 + 1 + 1 + 1 + 1, 4, none⟩ = some (.string m) := (by refine keepB hb (by first | omega | (simp <;> omega)) ?_; (repeat (first | assumption | (with_reducible refine keepD ?_) | (with_reducible refine keepN ?_) | (with_reducible refine keepV ?_)))); have bk : Below w.heap.size w w' := Below.trans (by repeat (first | (with_reducible assumption) | (with_reducible exact Below.refl _ _) | (with_reducible refine below_drewN ?_ _) | (with_reducible refine Below.drew ?_) | (with_reducible refine Below.setCell ?_ (by first | omega | (simp <;> omega)) _) | (with_reducible refine Below.alloc ?_ (by first | omega | (simp <;> omega)) _))) (hb.mono (by first | omega | (simp <;> omega))); have nk : w.heap.size + 7 ≤ w'.heap.size := (by have := hb.size; first | omega | (simp at this; omega)); clear hb)
    generalize goodAll [(x, y, z, q, n), (x, y, z, q, m)] = bs
    cases bs with
    | false =>
      go_wp2_with fail
      go_ret
      exact ⟨rfl, (by repeat (first | (with_reducible assumption) | (with_reducible exact Below.refl _ _) | (with_reducible refine below_drewN ?_ _) | (with_reducible refine Below.drew ?_) | (with_reducible refine Below.setCell ?_ (by first | omega | (simp <;> omega)) _) | (with_reducible refine Below.alloc ?_ (by first | omega | (simp <;> omega)) _)))⟩
    | true =>
      go_wp2_with fail
      refine wp_region_held_drew (S := (fun w' => w'.cell? ⟨w.heap.size, 0, none⟩ = some (.int .i64 o) ∧ w'.cell? ⟨w.heap.size, 1, none⟩ = some (.int .i64 g) ∧ w'.cell? ⟨w.heap.size, 2, none⟩ = some (.int .u64 a) ∧ w'.cell? ⟨w.heap.size, 3, none⟩ = some (.int .u64 b) ∧ w'.cell? ⟨w.heap.size, 4, none⟩ = some (.int .u64 c) ∧ w'.cell? ⟨w.heap.size, 5, none⟩ = some (.string p) ∧ w'.cell? ⟨w.heap.size + 1, 0, none⟩ = some (.int .u64 x) ∧ w'.cell? ⟨w.heap.size + 1, 1, none⟩ = some (.int .u64 y) ∧ w'.cell? ⟨w.heap.size + 1, 2, none⟩ = some (.int .u64 z) ∧ w'.cell? ⟨w.heap.size + 1, 3, none⟩ = some (.string q) ∧ w'.cell? ⟨w.heap.size + 1, 4, none⟩ = some (.string n) ∧ w'.cell? ⟨w.heap.size + 1 + 1 + 1 + 1 + 1 + 1, 0, none⟩ = some (.int .u64 x) ∧ w'.cell? ⟨w.heap.size + 1 + 1 + 1 + 1 + 1 + 1, 1, none⟩ = some (.int .u64 y) ∧ w'.cell? ⟨w.heap.size + 1 + 1 + 1 + 1 + 1 + 1, 2, none⟩ = some (.int .u64 z) ∧ w'.cell? ⟨w.heap.size + 1 + 1 + 1 + 1 + 1 + 1, 3, none⟩ = some (.string q) ∧ w'.cell? ⟨w.heap.size + 1 + 1 + 1 + 1 + 1 + 1, 4, none⟩ = some (.string m))) (by kernel_rfl) ?_ (fun hHeld => ?_)
      · (refine ⟨?_, ?_, ?_, ?_, ?_, ?_, ?_, ?_, ?_, ?_, ?_, ?_, ?_, ?_, ?_, ?_⟩ <;> (repeat (first | assumption | (with_reducible refine keepD ?_) | (with_reducible refine keepN ?_) | (with_reducible refine keepV ?_))))
      refine wpAnyH_take (i := 0) (v := ?_) rfl (by kernel_rfl) (by kernel_rfl) (by kernel_rfl) (fun _ _ _ h => h) (Or.inl ⟨by rfl, ?_⟩) (by assumption) ?_
      rotate_left
      · (intro w hSw; (try dsimp only at hSw); go_split_ands; go_simp; (try with_reducible rfl))
      (try simp only [Act.put, List.getElem_toArray, List.getElem_cons_zero, List.getElem_cons_succ, List.setIfInBounds_toArray, List.set_cons_zero, List.set_cons_succ])
      refine wpAnyH_take (i := 1) (v := ?_) rfl (by kernel_rfl) (by kernel_rfl) (by kernel_rfl) (fun _ _ _ h => h) (Or.inl ⟨by rfl, ?_⟩) (by assumption) ?_
      rotate_left
      · (intro w hSw; (try dsimp only at hSw); go_split_ands; go_simp; (try with_reducible rfl))
      (try simp only [Act.put, List.getElem_toArray, List.getElem_cons_zero, List.getElem_cons_succ, List.setIfInBounds_toArray, List.set_cons_zero, List.set_cons_succ])
      refine wpAnyH_take (i := 2) (v := ?_) rfl (by kernel_rfl) (by kernel_rfl) (by kernel_rfl) (fun _ _ _ h => h) (Or.inl ⟨by rfl, ?_⟩) (by assumption) ?_
      rotate_left
      · (intro w hSw; (try dsimp only at hSw); go_split_ands; go_simp; (try with_reducible rfl))
      (try simp only [Act.put, List.getElem_toArray, List.getElem_cons_zero, List.getElem_cons_succ, List.setIfInBounds_toArray, List.set_cons_zero, List.set_cons_succ])
      refine wpAnyH_take (i := 4) (v := ?_) rfl (by kernel_rfl) (by kernel_rfl) (by kernel_rfl) (fun _ _ _ h => h) (Or.inl ⟨by rfl, ?_⟩) (by assumption) ?_
      rotate_left
      · (intro w hSw; (try dsimp only at hSw); go_split_ands; go_simp; (try with_reducible rfl))
      (try simp only [Act.put, List.getElem_toArray, List.getElem_cons_zero, List.getElem_cons_succ, List.setIfInBounds_toArray, List.set_cons_zero, List.set_cons_succ])
      refine wpAnyH_take (i := 5) (v := ?_) rfl (by kernel_rfl) (by kernel_rfl) (by kernel_rfl) (fun _ _ _ h => h) (Or.inl ⟨by rfl, ?_⟩) (by assumption) ?_
      rotate_left
      · (intro w hSw; (try dsimp only at hSw); go_split_ands; go_simp; (try with_reducible rfl))
      (try simp only [Act.put, List.getElem_toArray, List.getElem_cons_zero, List.getElem_cons_succ, List.setIfInBounds_toArray, List.set_cons_zero, List.set_cons_succ])
      refine wpAnyH_take (i := 6) (v := ?_) rfl (by kernel_rfl) (by kernel_rfl) (by kernel_rfl) (fun _ _ _ h => h) (Or.inl ⟨by rfl, ?_⟩) (by assumption) ?_
      rotate_left
      · (intro w hSw; (try dsimp only at hSw); go_split_ands; go_simp; (try with_reducible rfl))
      (try simp only [Act.put, List.getElem_toArray, List.getElem_cons_zero, List.getElem_cons_succ, List.setIfInBounds_toArray, List.set_cons_zero, List.set_cons_succ])
      refine wpAnyH_ready (rs := [3]) (by kernel_rfl) (by simp) ?_
      refine AllReadyH.cons rfl (fun K hK => ?_) AllReadyH.nil
      go_simp
      (go_at_call 32; refine (HA.out _ (he.below (by repeat (first | (with_reducible assumption) | (with_reducible exact Below.refl _ _) | (with_reducible refine below_drewN ?_ _) | (with_reducible refine Below.drew ?_) | (with_reducible refine Below.setCell ?_ (by first | omega | (simp <;> omega)) _) | (with_reducible refine Below.alloc ?_ (by first | omega | (simp <;> omega)) _))))).mono ?_; rintro e w' ⟨rfl, hb⟩; have t0 : w'.cell? ⟨w.heap.size, 0, none⟩ = some (.int .i64 o) := (by refine keepB hb (by first | omega | (simp <;> omega)) ?_; (repeat (first | assumption | (with_reducible refine keepD ?_) | (with_reducible refine keepN ?_) | (with_reducible refine keepV ?_)))); have t1 : w'.cell? ⟨w.heap.size, 1, none⟩ = some (.int .i64 g) := (by refine keepB hb (by first | omega | (simp <;> omega)) ?_; (repeat (first | assumption | (with_reducible refine keepD ?_) | (with_reducible refine keepN ?_) | (with_reducible refine keepV ?_)))); have t2 : w'.cell? ⟨w.heap.size, 2, none⟩ = some (.int .u64 a) := (by refine keepB hb (by first | omega | (simp <;> omega)) ?_; (repeat (first | assumption | (with_reducible refine keepD ?_) | (with_reducible refine keepN ?_) | (with_reducible refine keepV ?_)))); have t3 : w'.cell? ⟨w.heap.size, 3, none⟩ = some (.int .u64 b) := (by refine keepB hb (by first | omega | (simp <;> omega)) ?_; (repeat (first | assumption | (with_reducible refine keepD ?_) | (with_reducible refine keepN ?_) | (with_reducible refine keepV ?_)))); have t4 : w'.cell? ⟨w.heap.size, 4, none⟩ = some (.int .u64 c) := (by refine keepB hb (by first | omega | (simp <;> omega)) ?_; (repeat (first | assumption | (with_reducible refine keepD ?_) | (with_reducible refine keepN ?_) | (with_reducible refine keepV ?_)))); have t5 : w'.cell? ⟨w.heap.size, 5, none⟩ = some (.string p) := (by refine keepB hb (by first | omega | (simp <;> omega)) ?_; (repeat (first | assumption | (with_reducible refine keepD ?_) | (with_reducible refine keepN ?_) | (with_reducible refine keepV ?_)))); have c0 : w'.cell? ⟨w.heap.size + 1, 0, none⟩ = some (.int .u64 x) := (by refine keepB hb (by first | omega | (simp <;> omega)) ?_; (repeat (first | assumption | (with_reducible refine keepD ?_) | (with_reducible refine keepN ?_) | (with_reducible refine keepV ?_)))); have c1 : w'.cell? ⟨w.heap.size + 1, 1, none⟩ = some (.int .u64 y) := (by refine keepB hb (by first | omega | (simp <;> omega)) ?_; (repeat (first | assumption | (with_reducible refine keepD ?_) | (with_reducible refine keepN ?_) | (with_reducible refine keepV ?_)))); have c2 : w'.cell? ⟨w.heap.size + 1, 2, none⟩ = some (.int .u64 z) := (by refine keepB hb (by first | omega | (simp <;> omega)) ?_; (repeat (first | assumption | (with_reducible refine keepD ?_) | (with_reducible refine keepN ?_) | (with_reducible refine keepV ?_)))); have c3 : w'.cell? ⟨w.heap.size + 1, 3, none⟩ = some (.string q) := (by refine keepB hb (by first | omega | (simp <;> omega)) ?_; (repeat (first | assumption | (with_reducible refine keepD ?_) | (with_reducible refine keepN ?_) | (with_reducible refine keepV ?_)))); have c4 : w'.cell? ⟨w.heap.size + 1, 4, none⟩ = some (.string n) := (by refine keepB hb (by first | omega | (simp <;> omega)) ?_; (repeat (first | assumption | (with_reducible refine keepD ?_) | (with_reducible refine keepN ?_) | (with_reducible refine keepV ?_)))); have d0 : w'.cell? ⟨w.heap.size + 1 + 1 + 1 + 1 + 1 + 1, 0, none⟩ = some (.int .u64 x) := (by refine keepB hb (by first | omega | (simp <;> omega)) ?_; (repeat (first | assumption | (with_reducible refine keepD ?_) | (with_reducible refine keepN ?_) | (with_reducible refine keepV ?_)))); have d1 : w'.cell? ⟨w.heap.size + 1 + 1 + 1 + 1 + 1 + 1, 1, none⟩ = some (.int .u64 y) := (by refine keepB hb (by first | omega | (simp <;> omega)) ?_; (repeat (first | assumption | (with_reducible refine keepD ?_) | (with_reducible refine keepN ?_) | (with_reducible refine keepV ?_)))); have d2 : w'.cell? ⟨w.heap.size + 1 + 1 + 1 + 1 + 1 + 1, 2, none⟩ = some (.int .u64 z) := (by refine keepB hb (by first | omega | (simp <;> omega)) ?_; (repeat (first | assumption | (with_reducible refine keepD ?_) | (with_reducible refine keepN ?_) | (with_reducible refine keepV ?_)))); have d3 : w'.cell? ⟨w.heap.size + 1 + 1 + 1 + 1 + 1 + 1, 3, none⟩ = some (.string q) := (by refine keepB hb (by first | omega | (simp <;> omega)) ?_; (repeat (first | assumption | (with_reducible refine keepD ?_) | (with_reducible refine keepN ?_) | (with_reducible refine keepV ?_)))); have d4 : w'.cell? ⟨w.heap.size + 1 + 1 + 1 + 1 + 1 + 1, 4, none⟩ = some (.string m) := (by refine keepB hb (by first | omega | (simp <;> omega)) ?_; (repeat (first | assumption | (with_reducible refine keepD ?_) | (with_reducible refine keepN ?_) | (with_reducible refine keepV ?_)))); have bk : Below w.heap.size w w' := Below.trans (by repeat (first | (with_reducible assumption) | (with_reducible exact Below.refl _ _) | (with_reducible refine below_drewN ?_ _) | (with_reducible refine Below.drew ?_) | (with_reducible refine Below.setCell ?_ (by first | omega | (simp <;> omega)) _) | (with_reducible refine Below.alloc ?_ (by first | omega | (simp <;> omega)) _))) (hb.mono (by first | omega | (simp <;> omega))); have nk : w.heap.size + 7 ≤ w'.heap.size := (by have := hb.size; first | omega | (simp at this; omega)); clear hb)
      refine hK.out _ _ ?_ (fun hHeld => ?_)
      · (refine ⟨?_, ?_, ?_, ?_, ?_, ?_, ?_, ?_, ?_, ?_, ?_, ?_, ?_, ?_, ?_, ?_⟩ <;> (repeat (first | assumption | (with_reducible refine keepD ?_) | (with_reducible refine keepN ?_) | (with_reducible refine keepV ?_))))
      clear hK K
      (try simp only [Act.put, List.getElem_toArray, List.getElem_cons_zero, List.getElem_cons_succ, List.setIfInBounds_toArray, List.set_cons_zero, List.set_cons_succ])
      refine wpAnyH_ready (rs := [7]) (by kernel_rfl) (by simp) ?_
      refine AllReadyH.cons rfl (fun K hK => ?_) AllReadyH.nil
      go_simp
      (go_at_call 32; refine (HB.out _ (he.below (by repeat (first | (with_reducible assumption) | (with_reducible exact Below.refl _ _) | (with_reducible refine below_drewN ?_ _) | (with_reducible refine Below.drew ?_) | (with_reducible refine Below.setCell ?_ (by first | omega | (simp <;> omega)) _) | (with_reducible refine Below.alloc ?_ (by first | omega | (simp <;> omega)) _))))).mono ?_; rintro e w' ⟨rfl, hb⟩; have t0 : w'.cell? ⟨w.heap.size, 0, none⟩ = some (.int .i64 o) := (by refine keepB hb (by first | omega | (simp <;> omega)) ?_; (repeat (first | assumption | (with_reducible refine keepD ?_) | (with_reducible refine keepN ?_) | (with_reducible refine keepV ?_)))); have t1 : w'.cell? ⟨w.heap.size, 1, none⟩ = some (.int .i64 g) := (by refine keepB hb (by first | omega | (simp <;> omega)) ?_; (repeat (first | assumption | (with_reducible refine keepD ?_) | (with_reducible refine keepN ?_) | (with_reducible refine keepV ?_)))); have t2 : w'.cell? ⟨w.heap.size, 2, none⟩ = some (.int .u64 a) := (by refine keepB hb (by first | omega | (simp <;> omega)) ?_; (repeat (first | assumption | (with_reducible refine keepD ?_) | (with_reducible refine keepN ?_) | (with_reducible refine keepV ?_)))); have t3 : w'.cell? ⟨w.heap.size, 3, none⟩ = some (.int .u64 b) := (by refine keepB hb (by first | omega | (simp <;> omega)) ?_; (repeat (first | assumption | (with_reducible refine keepD ?_) | (with_reducible refine keepN ?_) | (with_reducible refine keepV ?_)))); have t4 : w'.cell? ⟨w.heap.size, 4, none⟩ = some (.int .u64 c) := (by refine keepB hb (by first | omega | (simp <;> omega)) ?_; (repeat (first | assumption | (with_reducible refine keepD ?_) | (with_reducible refine keepN ?_) | (with_reducible refine keepV ?_)))); have t5 : w'.cell? ⟨w.heap.size, 5, none⟩ = some (.string p) := (by refine keepB hb (by first | omega | (simp <;> omega)) ?_; (repeat (first | assumption | (with_reducible refine keepD ?_) | (with_reducible refine keepN ?_) | (with_reducible refine keepV ?_)))); have c0 : w'.cell? ⟨w.heap.size + 1, 0, none⟩ = some (.int .u64 x) := (by refine keepB hb (by first | omega | (simp <;> omega)) ?_; (repeat (first | assumption | (with_reducible refine keepD ?_) | (with_reducible refine keepN ?_) | (with_reducible refine keepV ?_)))); have c1 : w'.cell? ⟨w.heap.size + 1, 1, none⟩ = some (.int .u64 y) := (by refine keepB hb (by first | omega | (simp <;> omega)) ?_; (repeat (first | assumption | (with_reducible refine keepD ?_) | (with_reducible refine keepN ?_) | (with_reducible refine keepV ?_)))); have c2 : w'.cell? ⟨w.heap.size + 1, 2, none⟩ = some (.int .u64 z) := (by refine keepB hb (by first | omega | (simp <;> omega)) ?_; (repeat (first | assumption | (with_reducible refine keepD ?_) | (with_reducible refine keepN ?_) | (with_reducible refine keepV ?_)))); have c3 : w'.cell? ⟨w.heap.size + 1, 3, none⟩ = some (.string q) := (by refine keepB hb (by first | omega | (simp <;> omega)) ?_; (repeat (first | assumption | (with_reducible refine keepD ?_) | (with_reducible refine keepN ?_) | (with_reducible refine keepV ?_)))); have c4 : w'.cell? ⟨w.heap.size + 1, 4, none⟩ = some (.string n) := (by refine keepB hb (by first | omega | (simp <;> omega)) ?_; (repeat (first | assumption | (with_reducible refine keepD ?_) | (with_reducible refine keepN ?_) | (with_reducible refine keepV ?_)))); have d0 : w'.cell? ⟨w.heap.size + 1 + 1 + 1 + 1 + 1 + 1, 0, none⟩ = some (.int .u64 x) := (by refine keepB hb (by first | omega | (simp <;> omega)) ?_; (repeat (first | assumption | (with_reducible refine keepD ?_) | (with_reducible refine keepN ?_) | (with_reducible refine keepV ?_)))); have d1 : w'.cell? ⟨w.heap.size + 1 + 1 + 1 + 1 + 1 + 1, 1, none⟩ = some (.int .u64 y) := (by refine keepB hb (by first | omega | (simp <;> omega)) ?_; (repeat (first | assumption | (with_reducible refine keepD ?_) | (with_reducible refine keepN ?_) | (with_reducible refine keepV ?_)))); have d2 : w'.cell? ⟨w.heap.size + 1 + 1 + 1 + 1 + 1 + 1, 2, none⟩ = some (.int .u64 z) := (by refine keepB hb (by first | omega | (simp <;> omega)) ?_; (repeat (first | assumption | (with_reducible refine keepD ?_) | (with_reducible refine keepN ?_) | (with_reducible refine keepV ?_)))); have d3 : w'.cell? ⟨w.heap.size + 1 + 1 + 1 + 1 + 1 + 1, 3, none⟩ = some (.string q) := (by refine keepB hb (by first | omega | (simp <;> omega)) ?_; (repeat (first | assumption | (with_reducible refine keepD ?_) | (with_reducible refine keepN ?_) | (with_reducible refine keepV ?_)))); have d4 : w'.cell? ⟨w.heap.size + 1 + 1 + 1 + 1 + 1 + 1, 4, none⟩ = some (.string m) := (by refine keepB hb (by first | omega | (simp <;> omega)) ?_; (repeat (first | assumption | (with_reducible refine keepD ?_) | (with_reducible refine keepN ?_) | (with_reducible refine keepV ?_)))); have bk : Below w.heap.size w w' := Below.trans (by repeat (first | (with_reducible assumption) | (with_reducible exact Below.refl _ _) | (with_reducible refine below_drewN ?_ _) | (with_reducible refine Below.drew ?_) | (with_reducible refine Below.setCell ?_ (by first | omega | (simp <;> omega)) _) | (with_reducible refine Below.alloc ?_ (by first | omega | (simp <;> omega)) _))) (hb.mono (by first | omega | (simp <;> omega))); have nk : w.heap.size + 7 ≤ w'.heap.size := (by have := hb.size; first | omega | (simp at this; omega)); clear hb)
      refine hK.out _ _ ?_ (fun hHeld => ?_)
      · (refine ⟨?_, ?_, ?_, ?_, ?_, ?_, ?_, ?_, ?_, ?_, ?_, ?_, ?_, ?_, ?_, ?_⟩ <;> (repeat (first | assumption | (with_reducible refine keepD ?_) | (with_reducible refine keepN ?_) | (with_reducible refine keepV ?_))))
      clear hK K
      (try simp only [Act.put, List.getElem_toArray, List.getElem_cons_zero, List.getElem_cons_succ, List.setIfInBounds_toArray, List.set_cons_zero, List.set_cons_succ])
      refine wpAnyH_take (i := 8) (v := ?_) rfl (by kernel_rfl) (by kernel_rfl) (by kernel_rfl) (fun _ _ _ h => h) (Or.inl ⟨by rfl, ?_⟩) (by assumption) ?_
      rotate_left
      · (intro w hSw; (try dsimp only at hSw); go_split_ands; go_simp; (try with_reducible rfl))
      (try simp only [Act.put, List.getElem_toArray, List.getElem_cons_zero, List.getElem_cons_succ, List.setIfInBounds_toArray, List.set_cons_zero, List.set_cons_succ])
      refine wpAnyH_take (i := 9) (v := ?_) rfl (by kernel_rfl) (by kernel_rfl) (by kernel_rfl) (fun _ _ _ h => h) (Or.inl ⟨by rfl, ?_⟩) (by assumption) ?_
      rotate_left
      · (intro w hSw; (try dsimp only at hSw); go_split_ands; go_simp; (try with_reducible rfl))
      (try simp only [Act.put, List.getElem_toArray, List.getElem_cons_zero, List.getElem_cons_succ, List.setIfInBounds_toArray, List.set_cons_zero, List.set_cons_succ])
      (try rw [show (T == T) = true from by simp])
      refine wpAnyH_take (i := 10) (v := ?_) rfl (by kernel_rfl) (by kernel_rfl) (by kernel_rfl) (fun _ _ _ h => h) (Or.inl ⟨by rfl, ?_⟩) (by assumption) ?_
      rotate_left
      · (intro w hSw; (try dsimp only at hSw); go_split_ands; go_simp; (try with_reducible rfl))
      (try simp only [Act.put, List.getElem_toArray, List.getElem_cons_zero, List.getElem_cons_succ, List.setIfInBounds_toArray, List.set_cons_zero, List.set_cons_succ])
      refine wpAnyH_take (i := 12) (v := ?_) rfl (by kernel_rfl) (by kernel_rfl) (by kernel_rfl) (fun _ _ _ h => h) (Or.inl ⟨by rfl, ?_⟩) (by assumption) ?_
      rotate_left
      · (intro w hSw; (try dsimp only at hSw); go_split_ands; go_simp; (try with_reducible rfl))
      (try simp only [Act.put, List.getElem_toArray, List.getElem_cons_zero, List.getElem_cons_succ, List.setIfInBounds_toArray, List.set_cons_zero, List.set_cons_succ])
      refine wpAnyH_ready (rs := [11]) (by kernel_rfl) (by simp) ?_
      refine AllReadyH.cons rfl (fun K hK => ?_) AllReadyH.nil
      go_simp
      (go_at_call 33; refine (stTermC_3 0 x y z q n _).mono ?_; rintro e w' ⟨rfl, hb⟩; have t0 : w'.cell? ⟨w.heap.size, 0, none⟩ = some (.int .i64 o) := (by refine keepB hb (by first | omega | (simp <;> omega)) ?_; (repeat (first | assumption | (with_reducible refine keepD ?_) | (with_reducible refine keepN ?_) | (with_reducible refine keepV ?_)))); have t1 : w'.cell? ⟨w.heap.size, 1, none⟩ = some (.int .i64 g) := (by refine keepB hb (by first | omega | (simp <;> omega)) ?_; (repeat (first | assumption | (with_reducible refine keepD ?_) | (with_reducible refine keepN ?_) | (with_reducible refine keepV ?_)))); have t2 : w'.cell? ⟨w.heap.size, 2, none⟩ = some (.int .u64 a) := (by refine keepB hb (by first | omega | (simp <;> omega)) ?_; (repeat (first | assumption | (with_reducible refine keepD ?_) | (with_reducible refine keepN ?_) | (with_reducible refine keepV ?_)))); have t3 : w'.cell? ⟨w.heap.size, 3, none⟩ = some (.int .u64 b) := (by refine keepB hb (by first | omega | (simp <;> omega)) ?_; (repeat (first | assumption | (with_reducible refine keepD ?_) | (with_reducible refine keepN ?_) | (with_reducible refine keepV ?_)))); have t4 : w'.cell? ⟨w.heap.size, 4, none⟩ = some (.int .u64 c) := (by refine keepB hb (by first | omega | (simp <;> omega)) ?_; (repeat (first | assumption | (with_reducible refine keepD ?_) | (with_reducible refine keepN ?_) | (with_reducible refine keepV ?_)))); have t5 : w'.cell? ⟨w.heap.size, 5, none⟩ = some (.string p) := (by refine keepB hb (by first | omega | (simp <;> omega)) ?_; (repeat (first | assumption | (with_reducible refine keepD ?_) | (with_reducible refine keepN ?_) | (with_reducible refine keepV ?_)))); have c0 : w'.cell? ⟨w.heap.size + 1, 0, none⟩ = some (.int .u64 x) := (by refine keepB hb (by first | omega | (simp <;> omega)) ?_; (repeat (first | assumption | (with_reducible refine keepD ?_) | (with_reducible refine keepN ?_) | (with_reducible refine keepV ?_)))); have c1 : w'.cell? ⟨w.heap.size + 1, 1, none⟩ = some (.int .u64 y) := (by refine keepB hb (by first | omega | (simp <;> omega)) ?_; (repeat (first | assumption | (with_reducible refine keepD ?_) | (with_reducible refine keepN ?_) | (with_reducible refine keepV ?_)))); have c2 : w'.cell? ⟨w.heap.size + 1, 2, none⟩ = some (.int .u64 z) := (by refine keepB hb (by first | omega | (simp <;> omega)) ?_; (repeat (first | assumption | (with_reducible refine keepD ?_) | (with_reducible refine keepN ?_) | (with_reducible refine keepV ?_)))); have c3 : w'.cell? ⟨w.heap.size + 1, 3, none⟩ = some (.string q) := (by refine keepB hb (by first | omega | (simp <;> omega)) ?_; (repeat (first | assumption | (with_reducible refine keepD ?_) | (with_reducible refine keepN ?_) | (with_reducible refine keepV ?_)))); have c4 : w'.cell? ⟨w.heap.size + 1, 4, none⟩ = some (.string n) := (by refine keepB hb (by first | omega | (simp <;> omega)) ?_; (repeat (first | assumption | (with_reducible refine keepD ?_) | (with_reducible refine keepN ?_) | (with_reducible refine keepV ?_)))); have d0 : w'.cell? ⟨w.heap.size + 1 + 1 + 1 + 1 + 1 + 1, 0, none⟩ = some (.int .u64 x) := (by refine keepB hb (by first | omega | (simp <;> omega)) ?_; (repeat (first | assumption | (with_reducible refine keepD ?_) | (with_reducible refine keepN ?_) | (with_reducible refine keepV ?_)))); have d1 : w'.cell? ⟨w.heap.size + 1 + 1 + 1 + 1 + 1 + 1, 1, none⟩ = some (.int .u64 y) := (by refine keepB hb (by first | omega | (simp <;> omega)) ?_; (repeat (first | assumption | (with_reducible refine keepD ?_) | (with_reducible refine keepN ?_) | (with_reducible refine keepV ?_)))); have d2 : w'.cell? ⟨w.heap.size + 1 + 1 + 1 + 1 + 1 + 1, 2, none⟩ = some (.int .u64 z) := (by refine keepB hb (by first | omega | (simp <;> omega)) ?_; (repeat (first | assumption | (with_reducible refine keepD ?_) | (with_reducible refine keepN ?_) | (with_reducible refine keepV ?_)))); have d3 : w'.cell? ⟨w.heap.size + 1 + 1 + 1 + 1 + 1 + 1, 3, none⟩ = some (.string q) := (by refine keepB hb (by first | omega | (simp <;> omega)) ?_; (repeat (first | assumption | (with_reducible refine keepD ?_) | (with_reducible refine keepN ?_) | (with_reducible refine keepV ?_)))); have d4 : w'.cell? ⟨w.heap.size + 1 + 1 + 1 + 1 + 1 + 1, 4, none⟩ = some (.string m) := (by refine keepB hb (by first | omega | (simp <;> omega)) ?_; (repeat (first | assumption | (with_reducible refine keepD ?_) | (with_reducible refine keepN ?_) | (with_reducible refine keepV ?_)))); have bk : Below w.heap.size w w' := Below.trans (by repeat (first | (with_reducible assumption) | (with_reducible exact Below.refl _ _) | (with_reducible refine below_drewN ?_ _) | (with_reducible refine Below.drew ?_) | (with_reducible refine Below.setCell ?_ (by first | omega | (simp <;> omega)) _) | (with_reducible refine Below.alloc ?_ (by first | omega | (simp <;> omega)) _))) (hb.mono (by first | omega | (simp <;> omega))); have nk : w.heap.size + 7 ≤ w'.heap.size := (by have := hb.size; first | omega | (simp at this; omega)); clear hb)
      refine hK.out _ _ ?_ (fun hHeld => ?_)
      · (refine ⟨?_, ?_, ?_, ?_, ?_, ?_, ?_, ?_, ?_, ?_, ?_, ?_, ?_, ?_, ?_, ?_⟩ <;> (repeat (first | assumption | (with_reducible refine keepD ?_) | (with_reducible refine keepN ?_) | (with_reducible refine keepV ?_))))
      clear hK K
      (try simp only [Act.put, List.getElem_toArray, List.getElem_cons_zero, List.getElem_cons_succ, List.setIfInBounds_toArray, List.set_cons_zero, List.set_cons_succ])
      refine wpAnyH_ready (rs := [13]) (by kernel_rfl) (by simp) ?_
      refine AllReadyH.cons rfl (fun K hK => ?_) AllReadyH.nil
      go_simp
      (go_at_call 32; refine (HC.out _ (he.below (by repeat (first | (with_reducible assumption) | (with_reducible exact Below.refl _ _) | (with_reducible refine below_drewN ?_ _) | (with_reducible refine Below.drew ?_) | (with_reducible refine Below.setCell ?_ (by first | omega | (simp <;> omega)) _) | (with_reducible refine Below.alloc ?_ (by first | omega | (simp <;> omega)) _))))).mono ?_; rintro e w' ⟨rfl, hb⟩; have t0 : w'.cell? ⟨w.heap.size, 0, none⟩ = some (.int .i64 o) := (by refine keepB hb (by first | omega | (simp <;> omega)) ?_; (repeat (first | assumption | (with_reducible refine keepD ?_) | (with_reducible refine keepN ?_) | (with_reducible refine keepV ?_)))); have t1 : w'.cell? ⟨w.heap.size, 1, none⟩ = some (.int .i64 g) := (by refine keepB hb (by first | omega | (simp <;> omega)) ?_; (repeat (first | assumption | (with_reducible refine keepD ?_) | (with_reducible refine keepN ?_) | (with_reducible refine keepV ?_)))); have t2 : w'.cell? ⟨w.heap.size, 2, none⟩ = some (.int .u64 a) := (by refine keepB hb (by first | omega | (simp <;> omega)) ?_; (repeat (first | assumption | (with_reducible refine keepD ?_) | (with_reducible refine keepN ?_) | (with_reducible refine keepV ?_)))); have t3 : w'.cell? ⟨w.heap.size, 3, none⟩ = some (.int .u64 b) := (by refine keepB hb (by first | omega | (simp <;> omega)) ?_; (repeat (first | assumption | (with_reducible refine keepD ?_) | (with_reducible refine keepN ?_) | (with_reducible refine keepV ?_)))); have t4 : w'.cell? ⟨w.heap.size, 4, none⟩ = some (.int .u64 c) := (by refine keepB hb (by first | omega | (simp <;> omega)) ?_; (repeat (first | assumption | (with_reducible refine keepD ?_) | (with_reducible refine keepN ?_) | (with_reducible refine keepV ?_)))); have t5 : w'.cell? ⟨w.heap.size, 5, none⟩ = some (.string p) := (by refine keepB hb (by first | omega | (simp <;> omega)) ?_; (repeat (first | assumption | (with_reducible refine keepD ?_) | (with_reducible refine keepN ?_) | (with_reducible refine keepV ?_)))); have c0 : w'.cell? ⟨w.heap.size + 1, 0, none⟩ = some (.int .u64 x) := (by refine keepB hb (by first | omega | (simp <;> omega)) ?_; (repeat (first | assumption | (with_reducible refine keepD ?_) | (with_reducible refine keepN ?_) | (with_reducible refine keepV ?_)))); have c1 : w'.cell? ⟨w.heap.size + 1, 1, none⟩ = some (.int .u64 y) := (by refine keepB hb (by first | omega | (simp <;> omega)) ?_; (repeat (first | assumption | (with_reducible refine keepD ?_) | (with_reducible refine keepN ?_) | (with_reducible refine keepV ?_)))); have c2 : w'.cell? ⟨w.heap.size + 1, 2, none⟩ = some (.int .u64 z) := (by refine keepB hb (by first | omega | (simp <;> omega)) ?_; (repeat (first | assumption | (with_reducible refine keepD ?_) | (with_reducible refine keepN ?_) | (with_reducible refine keepV ?_)))); have c3 : w'.cell? ⟨w.heap.size + 1, 3, none⟩ = some (.string q) := (by refine keepB hb (by first | omega | (simp <;> omega)) ?_; (repeat (first | assumption | (with_reducible refine keepD ?_) | (with_reducible refine keepN ?_) | (with_reducible refine keepV ?_)))); have c4 : w'.cell? ⟨w.heap.size + 1, 4, none⟩ = some (.string n) := (by refine keepB hb (by first | omega | (simp <;> omega)) ?_; (repeat (first | assumption | (with_reducible refine keepD ?_) | (with_reducible refine keepN ?_) | (with_reducible refine keepV ?_)))); have d0 : w'.cell? ⟨w.heap.size + 1 + 1 + 1 + 1 + 1 + 1, 0, none⟩ = some (.int .u64 x) := (by refine keepB hb (by first | omega | (simp <;> omega)) ?_; (repeat (first | assumption | (with_reducible refine keepD ?_) | (with_reducible refine keepN ?_) | (with_reducible refine keepV ?_)))); have d1 : w'.cell? ⟨w.heap.size + 1 + 1 + 1 + 1 + 1 + 1, 1, none⟩ = some (.int .u64 y) := (by refine keepB hb (by first | omega | (simp <;> omega)) ?_; (repeat (first | assumption | (with_reducible refine keepD ?_) | (with_reducible refine keepN ?_) | (with_reducible refine keepV ?_)))); have d2 : w'.cell? ⟨w.heap.size + 1 + 1 + 1 + 1 + 1 + 1, 2, none⟩ = some (.int .u64 z) := (by refine keepB hb (by first | omega | (simp <;> omega)) ?_; (repeat (first | assumption | (with_reducible refine keepD ?_) | (with_reducible refine keepN ?_) | (with_reducible refine keepV ?_)))); have d3 : w'.cell? ⟨w.heap.size + 1 + 1 + 1 + 1 + 1 + 1, 3, none⟩ = some (.string q) := (by refine keepB hb (by first | omega | (simp <;> omega)) ?_; (repeat (first | assumption | (with_reducible refine keepD ?_) | (with_reducible refine keepN ?_) | (with_reducible refine keepV ?_)))); have d4 : w'.cell? ⟨w.heap.size + 1 + 1 + 1 + 1 + 1 + 1, 4, none⟩ = some (.string m) := (by refine keepB hb (by first | omega | (simp <;> omega)) ?_; (repeat (first | assumption | (with_reducible refine keepD ?_) | (with_reducible refine keepN ?_) | (with_reducible refine keepV ?_)))); have bk : Below w.heap.size w w' := Below.trans (by repeat (first | (with_reducible assumption) | (with_reducible exact Below.refl _ _) | (with_reducible refine below_drewN ?_ _) | (with_reducible refine Below.drew ?_) | (with_reducible refine Below.setCell ?_ (by first | omega | (simp <;> omega)) _) | (with_reducible refine Below.alloc ?_ (by first | omega | (simp <;> omega)) _))) (hb.mono (by first | omega | (simp <;> omega))); have nk : w.heap.size + 7 ≤ w'.heap.size := (by have := hb.size; first | omega | (simp at this; omega)); clear hb)
      refine hK.out _ _ ?_ (fun hHeld => ?_)
      · (refine ⟨?_, ?_, ?_, ?_, ?_, ?_, ?_, ?_, ?_, ?_, ?_, ?_, ?_, ?_, ?_, ?_⟩ <;> (repeat (first | assumption | (with_reducible refine keepD ?_) | (with_reducible refine keepN ?_) | (with_reducible refine keepV ?_))))
      clear hK K
      (try simp only [Act.put, List.getElem_toArray, List.getElem_cons_zero, List.getElem_cons_succ, List.setIfInBounds_toArray, List.set_cons_zero, List.set_cons_succ])
      refine wpAnyH_take (i := 14) (v := ?_) rfl (by kernel_rfl) (by kernel_rfl) (by kernel_rfl) (fun _ _ _ h => h) (Or.inl ⟨by rfl, ?_⟩) (by assumption) ?_
      rotate_left
      · (intro w hSw; (try dsimp only at hSw); go_split_ands; go_simp; (try with_reducible rfl))
      (try simp only [Act.put, List.getElem_toArray, List.getElem_cons_zero, List.getElem_cons_succ, List.setIfInBounds_toArray, List.set_cons_zero, List.set_cons_succ])
      refine wpAnyH_take (i := 15) (v := ?_) rfl (by kernel_rfl) (by kernel_rfl) (by kernel_rfl) (fun _ _ _ h => h) (Or.inl ⟨by rfl, ?_⟩) (by assumption) ?_
      rotate_left
      · (intro w hSw; (try dsimp only at hSw); go_split_ands; go_simp; (try with_reducible rfl))
      (try simp only [Act.put, List.getElem_toArray, List.getElem_cons_zero, List.getElem_cons_succ, List.setIfInBounds_toArray, List.set_cons_zero, List.set_cons_succ])
      refine wpAnyH_done (by kernel_rfl) ?_ _
      go_wp2_with fail
      go_ret
      exact ⟨rfl, (by repeat (first | (with_reducible assumption) | (with_reducible exact Below.refl _ _) | (with_reducible refine below_drewN ?_ _) | (with_reducible refine Below.drew ?_) | (with_reducible refine Below.setCell ?_ (by first | omega | (simp <;> omega)) _) | (with_reducible refine Below.alloc ?_ (by first | omega | (simp <;> omega)) _)))⟩

/-- Each operator's term is answered, whatever the version's metadata. -/
theorem check_all (o g a b c x y z : Int) (p q : ByteArray) (pre : Bool) (hp : p.size ≤ 2147483647) (hq : q.size ≤ 2147483647) (ha : 0 ≤ a) (hb : 0 ≤ b) (hx : 0 ≤ x) (hy : 0 ≤ y) (ht : TermOk o g a b c p) :
    ∃ (s : ByteArray) (T : Bool), OpIs o s ∧ CheckIs s x y z a b c q p (decide (g ≠ 3)) (decide (g = 1)) (decide (g = 2)) pre T := by
  obtain ⟨h1, h2, h3, h4, -, -, h7, -, -, -⟩ := ht
  have hc : o = 0 ∨ o = 1 ∨ o = 2 ∨ o = 3 ∨ o = 4 ∨ o = 5 ∨ o = 6 ∨ o = 7 := by omega
  rcases hc with rfl | rfl | rfl | rfl | rfl | rfl | rfl | rfl
  · exact ⟨_, _, opIs_0, checkIs_eq x y z a b c q p _ _ _ pre (by omega) (by omega)⟩
  · exact ⟨_, _, opIs_1, checkIs_ne x y z a b c q p _ _ _ pre (by omega) (by omega) (fun h => (h7 (by have := of_decide_eq_true h; omega)).2)⟩
  · exact ⟨_, _, opIs_2, checkIs_gt x y z a b c q p _ _ _ pre (by omega) (by omega)⟩
  · exact ⟨_, _, opIs_3, checkIs_lt x y z a b c q p _ _ _ pre (by omega) (by omega)⟩
  · exact ⟨_, _, opIs_4, checkIs_ge x y z a b c q p _ _ _ pre (by omega) (by omega)⟩
  · exact ⟨_, _, opIs_5, checkIs_le x y z a b c q p _ _ _ pre (by omega) (by omega)⟩
  · exact ⟨_, _, opIs_6, checkIs_ti x y z a b c q p _ _ _ pre (by omega) (by omega)⟩
  · exact ⟨_, _, opIs_7, checkIs_ca x y z a b c q p _ _ _ pre (by omega) (by omega) ha hb hx hy⟩

theorem own_true (x y z : Int) (q m : ByteArray) (hq : q.size ≤ 2147483647) : TermHoldIs 0 3 x y z x y z q q m true true := by
  intro W he
  have hT : CheckIs ⟨#[61]⟩ x y z x y z q q false false false true true := by
    have h := checkIs_eq x y z x y z q q false false false true (by omega) (by omega)
    have e : shutB q.toList.isEmpty true (equalV false (tildeB true q q x y z x y z false false) (cmpI x y z q x y z q == 0)) = true := by
      rw [cmpI_self9 x y z q]
      unfold shutB equalV
      cases q.toList.isEmpty <;> rfl
    rw [e] at h
    exact h
  have HD : Hid (dirtyIs 3 false false false) := ⟨by decide, by decide, by decide⟩
  exact termHolds_any 0 3 x y z x y z (by omega) false false false HD q q m true W he ⟨#[61]⟩ opIs_0 true hT

theorem wfU8 {a : Int} (h : (Lit.int .u64 a).wf = true) : 0 ≤ a := by
  have h2 : (decide (IntKind.u64.min ≤ a) && decide (a ≤ IntKind.u64.max)) = true := h
  have e1 : IntKind.u64.min = 0 := by decide
  rw [e1] at h2
  simp only [Bool.and_eq_true, decide_eq_true_eq] at h2
  exact h2.1

theorem tmeta_ft (o g a b c x y z : Int) (p q n m : ByteArray) (pre : Bool) (h : decide (p.size ≤ 2147483647) = false) (w : World) :
    Calls Tryd.prog 8 #[.agg (termC o g a b c p), .agg (plainC x y z q n), .string m, .bool pre] w (BoolPost true w) := by
  have H := Lib.hid h
  clear h
  go_enter Tryd.func8, Tryd.ntmps8
  go_wp2_with fail
  refine (fits13_any o g a b c p false H.out _).mono ?_
  rintro e w1 ⟨rfl, rfl⟩
  go_wp2_with fail
  go_ret
  exact ⟨rfl, (by repeat (first | (with_reducible assumption) | (with_reducible exact Below.refl _ _) | (with_reducible refine below_drewN ?_ _) | (with_reducible refine Below.drew ?_) | (with_reducible refine Below.setCell ?_ (by first | omega | (simp <;> omega)) _) | (with_reducible refine Below.alloc ?_ (by first | omega | (simp <;> omega)) _)))⟩

theorem tmeta_fv (o g a b c x y z : Int) (p q n m : ByteArray) (pre : Bool) (h : decide (p.size ≤ 2147483647) = true) (h2 : (decide (q.size ≤ 2147483647) && decide (n.size ≤ 2147483647)) = false) (w : World) :
    Calls Tryd.prog 8 #[.agg (termC o g a b c p), .agg (plainC x y z q n), .string m, .bool pre] w (BoolPost true w) := by
  have H := Lib.hid h
  clear h
  have H2 := Lib.hid h2
  clear h2
  go_enter Tryd.func8, Tryd.ntmps8
  go_wp2_with fail
  refine (fits13_any o g a b c p true H.out _).mono ?_
  rintro e w1 ⟨rfl, rfl⟩
  go_wp2_with fail
  refine (fits14_any x y z q n false H2.out _).mono ?_
  rintro e w1 ⟨rfl, rfl⟩
  go_wp2_with fail
  go_ret
  exact ⟨rfl, (by repeat (first | (with_reducible assumption) | (with_reducible exact Below.refl _ _) | (with_reducible refine below_drewN ?_ _) | (with_reducible refine Below.drew ?_) | (with_reducible refine Below.setCell ?_ (by first | omega | (simp <;> omega)) _) | (with_reducible refine Below.alloc ?_ (by first | omega | (simp <;> omega)) _)))⟩

theorem tmeta_fm (o g a b c x y z : Int) (p q n m : ByteArray) (pre : Bool) (h : decide (p.size ≤ 2147483647) = true) (h2 : (decide (q.size ≤ 2147483647) && decide (n.size ≤ 2147483647)) = true) (h3 : 2147483647 < m.size) (w : World) :
    Calls Tryd.prog 8 #[.agg (termC o g a b c p), .agg (plainC x y z q n), .string m, .bool pre] w (BoolPost true w) := by
  have H := Lib.hid h
  clear h
  have H2 := Lib.hid h2
  clear h2
  have hm2 : (2147483647 < ((m.size : Nat) : Int)) = True := by simp; omega
  go_enter Tryd.func8, Tryd.ntmps8
  go_wp2_with fail
  refine (fits13_any o g a b c p true H.out _).mono ?_
  rintro e w1 ⟨rfl, rfl⟩
  go_wp2_with fail
  refine (fits14_any x y z q n true H2.out _).mono ?_
  rintro e w1 ⟨rfl, rfl⟩
  go_wp2_with fail
  go_ret
  exact ⟨rfl, (by repeat (first | (with_reducible assumption) | (with_reducible exact Below.refl _ _) | (with_reducible refine below_drewN ?_ _) | (with_reducible refine Below.drew ?_) | (with_reducible refine Below.setCell ?_ (by first | omega | (simp <;> omega)) _) | (with_reducible refine Below.alloc ?_ (by first | omega | (simp <;> omega)) _)))⟩

theorem termMeta_law (o g a b c : Int) (p : ByteArray) (x y z : Int) (q n : ByteArray) (m : ByteArray) (pre : Bool) (_w0 : (Lit.int .i64 o).wf = true) (_w1 : (Lit.int .i64 g).wf = true) (_w2 : (Lit.int .u64 a).wf = true) (_w3 : (Lit.int .u64 b).wf = true) (_w4 : (Lit.int .u64 c).wf = true) (_w5 : p.size ≤ maxLen) (_w6 : (Lit.int .u64 x).wf = true) (_w7 : (Lit.int .u64 y).wf = true) (_w8 : (Lit.int .u64 z).wf = true) (_w9 : q.size ≤ maxLen) (_w10 : n.size ≤ maxLen) (_w11 : m.size ≤ maxLen) (w : World) (he : Hid (Errs w)) :
    Calls Tryd.prog 8 #[.agg #[.int .i64 o, .int .i64 g, .int .u64 a, .int .u64 b, .int .u64 c, .string p], .agg #[.int .u64 x, .int .u64 y, .int .u64 z, .string q, .string n], .string m, .bool pre] w fun e w' => e = .returned (.bool true) ∧ Below w.heap.size w w' := by
  cases h1 : decide (p.size ≤ 2147483647) with
  | false => exact tmeta_ft o g a b c x y z p q n m pre h1 w
  | true =>
    cases h2 : (decide (q.size ≤ 2147483647) && decide (n.size ≤ 2147483647)) with
    | false => exact tmeta_fv o g a b c x y z p q n m pre h1 h2 w
    | true =>
      by_cases h3 : 2147483647 < m.size
      · exact tmeta_fm o g a b c x y z p q n m pre h1 h2 h3 w
      simp only [Bool.and_eq_true, decide_eq_true_eq] at h1 h2
      have hc : ∃ T, TermOk o g a b c p → TermHoldIs o g a b c x y z p q n pre T ∧ TermHoldIs o g a b c x y z p q m pre T := by
        by_cases ht : TermOk o g a b c p
        · obtain ⟨s, T, hs, hT⟩ := check_all o g a b c x y z p q pre h1 h2.1 (wfU8 _w2) (wfU8 _w3) (wfU8 _w6) (wfU8 _w7) ht
          have HD : Hid (dirtyIs g (decide (g ≠ 3)) (decide (g = 1)) (decide (g = 2))) := ⟨rfl, rfl, rfl⟩
          have hg : 0 ≤ g ∧ g ≤ 3 := ⟨ht.2.2.1, ht.2.2.2.1⟩
          exact ⟨T, fun _ => ⟨fun W he => termHolds_any o g a b c x y z hg _ _ _ HD p q n pre W he s hs T hT, fun W he => termHolds_any o g a b c x y z hg _ _ _ HD p q m pre W he s hs T hT⟩⟩
        · exact ⟨true, fun h => absurd h ht⟩
      obtain ⟨T, HT⟩ := hc
      exact tmeta_go o g a b c x y z p q n m pre h1 h2.1 h2.2 (by omega) T HT (own_true x y z q m h2.1) w he
end Go.Proofs.YtdlpcfhhpjjjmaaDoor
