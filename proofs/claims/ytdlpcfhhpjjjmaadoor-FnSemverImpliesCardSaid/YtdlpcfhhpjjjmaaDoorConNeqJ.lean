/- semver.constraintNotEqual, whole. -/
import Derived.Test.YtdlpcfhhpjjjmaaDoorConNeq
import Derived.Test.YtdlpcfhhpjjjmaaDoorConNeqA
import Derived.Test.YtdlpcfhhpjjjmaaDoorConNeqP
import Derived.Test.YtdlpcfhhpjjjmaaDoorConNeqQ
namespace Go.Proofs.YtdlpcfhhpjjjmaaDoor
open Go.RowKit
set_option linter.unusedVariables false
set_option linter.unusedSimpArgs false

/-- What != answers of two prereleases where no patch number is given. -/
def apart (q p : ByteArray) : Bool := bif (q.toList.isEmpty && p.toList.isEmpty) then false else (preI q p != 0)
theorem lE {q : ByteArray} (h : q.toList.isEmpty = true) : q.toList = [] := by simpa using h
theorem nqp_any (g j k : Nat) (x y z a b c : Int) (q n r p m o s : ByteArray) (dy md pd pre : Bool) (w : World) (hg : VerAt w g (verC x y z q n r)) (hj : VerAt w j (verC a b c p m o)) (hk : ConAt w k #[.pointer (some ⟨j, 0, none⟩), .string ⟨#[]⟩, .string s, .bool md, .bool dy, .bool pd]) (hq : q.size ≤ 2147483654) (hp : p.size ≤ 2147483654) (he : Hid (Errs w)) (R : Int) (HR : Hid (cmpI x y z q a b c p = R)) (hne : g ≠ j) (h0 : openP q pre) (hd : dy = true) (hm : md = false) (hpd : pd = true) (hpp : pd = true → p.toList = []) (hx : x = a) (hy : y = b) (hz : z = c ∨ c ≠ z) :
    Calls Tryd.prog 106 #[.pointer (some ⟨g, 0, none⟩), .pointer (some ⟨k, 0, none⟩), .bool pre] w (HoldPost (apart q p) w) := by
  obtain ⟨P, HP⟩ : ∃ P, Hid (preI q p = P) := ⟨_, rfl⟩
  unfold apart
  rw [HP.out]
  have hqp : (q.toList.isEmpty = false ∧ pre = true) ∨ q.toList = [] := by
    rcases h0 with h | h
    · exact .inr h
    · exact .inl h
  have hd0 := hd
  have hm0 := hm
  have hp0 := hpd
  rcases hqp with ⟨h1, h2⟩ | h1
  · rw [h1]
    cases hr : (P != 0) with
    | true =>
      rcases hz with hz | hz
      · exact nq_pe_q1 g j k x y z a b c q n r p m o s dy md pd pre w hg hj hk hq hp he R HR hne h1 h2 hd hx hy hm hz hpd P HP (by simpa using hr)
      · exact nq_pn_q1 g j k x y z a b c q n r p m o s dy md pd pre w hg hj hk hq hp he R HR hne h1 h2 hd hx hy hm hz hpd P HP (by simpa using hr)
    | false =>
      rcases hz with hz | hz
      · exact nq_pe_q0 g j k x y z a b c q n r p m o s dy md pd pre w hg hj hk hq hp he R HR hne h1 h2 hd hx hy hm hz hpd P HP (by simpa using hr)
      · exact nq_pn_q0 g j k x y z a b c q n r p m o s dy md pd pre w hg hj hk hq hp he R HR hne h1 h2 hd hx hy hm hz hpd P HP (by simpa using hr)
  · have hpe := hpp hpd
    rw [h1, hpe]
    rcases hz with hz | hz
    · exact nq_pe_0 g j k x y z a b c q n r p m o s dy md pd pre w hg hj hk hq hp he R HR hne h1 hd hx hy hm hz hpd hpe
    · exact nq_pn_0 g j k x y z a b c q n r p m o s dy md pd pre w hg hj hk hq hp he R HR hne h1 hd hx hy hm hz hpd hpe

/-- What != answers. -/
def notV (dy md pd xe ye ze pr r0 : Bool) : Bool := bif dy then (bif xe then (bif md then false else bif ye then (bif pd then pr else bif ze then r0 else true) else true) else true) else r0

theorem neq_any (g j k : Nat) (x y z a b c : Int) (q n r p m o s : ByteArray) (dy md pd pre : Bool) (w : World) (hg : VerAt w g (verC x y z q n r)) (hj : VerAt w j (verC a b c p m o)) (hk : ConAt w k #[.pointer (some ⟨j, 0, none⟩), .string ⟨#[]⟩, .string s, .bool md, .bool dy, .bool pd]) (hq : q.size ≤ 2147483654) (hp : p.size ≤ 2147483654) (he : Hid (Errs w)) (hne : g ≠ j) (hpp : pd = true → p.toList = []) (hsh : q.toList.isEmpty = false → pre = false → Calls Tryd.prog 106 #[.pointer (some ⟨g, 0, none⟩), .pointer (some ⟨k, 0, none⟩), .bool pre] w (HoldPost false w)) :
    Calls Tryd.prog 106 #[.pointer (some ⟨g, 0, none⟩), .pointer (some ⟨k, 0, none⟩), .bool pre] w (HoldPost (shutB q.toList.isEmpty pre (notV dy md pd (decide (x = a)) (decide (y = b)) (decide (z = c)) (apart q p) ((cmpI x y z q a b c p) != 0))) w) := by
  obtain ⟨R, HR⟩ : ∃ R, Hid (cmpI x y z q a b c p = R) := ⟨_, rfl⟩
  rw [HR.out]
  rcases open_or q pre with h0 | ⟨h1, h2⟩
  · rw [shut_open q pre _ h0]
    cases hd : dy with
    | false =>
      subst hd
      cases hr : (R != 0) with
      | true => exact nq_d0 g j k x y z a b c q n r p m o s false md pd pre w hg hj hk hq hp he R HR hne h0 rfl (by simpa using hr)
      | false => exact nq_d1 g j k x y z a b c q n r p m o s false md pd pre w hg hj hk hq hp he R HR hne h0 rfl (by simpa using hr)
    | true =>
      subst hd
      by_cases hx : x = a
      · rw [decide_eq_true hx]
        cases hm : md with
        | true =>
          subst hm
          by_cases hy : y = b
          · rw [decide_eq_true hy]; exact nq_mt g j k x y z a b c q n r p m o s true true pd pre w hg hj hk hq hp he R HR hne h0 rfl hx hy rfl
          · rw [decide_eq_false hy]; exact nq_yt g j k x y z a b c q n r p m o s true true pd pre w hg hj hk hq hp he R HR hne h0 rfl hx (fun e => hy e.symm) rfl
        | false =>
          subst hm
          by_cases hy : y = b
          · rw [decide_eq_true hy]
            cases hp2 : pd with
            | true =>
              subst hp2
              by_cases hz : z = c
              · rw [decide_eq_true hz]; exact nqp_any g j k x y z a b c q n r p m o s true false true pre w hg hj hk hq hp he R HR hne h0 rfl rfl rfl hpp hx hy (.inl hz)
              · rw [decide_eq_false hz]; exact nqp_any g j k x y z a b c q n r p m o s true false true pre w hg hj hk hq hp he R HR hne h0 rfl rfl rfl hpp hx hy (.inr (fun e => hz e.symm))
            | false =>
              subst hp2
              by_cases hz : z = c
              · rw [decide_eq_true hz]
                cases hr : (R != 0) with
                | true => exact nq_e0 g j k x y z a b c q n r p m o s true false false pre w hg hj hk hq hp he R HR hne h0 rfl hx hy rfl hz rfl (by simpa using hr)
                | false => exact nq_e1 g j k x y z a b c q n r p m o s true false false pre w hg hj hk hq hp he R HR hne h0 rfl hx hy rfl hz rfl (by simpa using hr)
              · rw [decide_eq_false hz]; exact nq_zf g j k x y z a b c q n r p m o s true false false pre w hg hj hk hq hp he R HR hne h0 rfl hx hy rfl (fun e => hz e.symm) rfl
          · rw [decide_eq_false hy]; exact nq_yf g j k x y z a b c q n r p m o s true false pd pre w hg hj hk hq hp he R HR hne h0 rfl hx (fun e => hy e.symm) rfl
      · rw [decide_eq_false hx]; exact nq_x g j k x y z a b c q n r p m o s true md pd pre w hg hj hk hq hp he R HR hne h0 rfl (fun e => hx e.symm)
  · rw [shut_shut q pre _ h1 h2]
    exact hsh h1 h2

end Go.Proofs.YtdlpcfhhpjjjmaaDoor
