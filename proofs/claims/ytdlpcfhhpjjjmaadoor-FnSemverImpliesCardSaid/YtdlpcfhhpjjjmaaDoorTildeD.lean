/- semver.constraintTilde: what it answers. -/
import Derived.Test.YtdlpcfhhpjjjmaaDoorTildeB
import Derived.Test.YtdlpcfhhpjjjmaaDoorTildeC
namespace Go.Proofs.YtdlpcfhhpjjjmaaDoor
open Go.RowKit
set_option linter.unusedVariables false
set_option linter.unusedSimpArgs false

/-- What a tilde answers. -/
def tildeB (pre : Bool) (q p : ByteArray) (x y z a b c : Int) (md pd : Bool) : Bool :=
  if (!q.toList.isEmpty && !pre) = true then false
  else if decide (cmpI x y z q a b c p < 0) = true then false
  else if ((a == 0) && ((b == 0) && ((c == 0) && (!md && !pd)))) = true then true
  else ((x == a) && ((y == b) || md))

theorem tilde_any (g j k : Nat) (x y z a b c : Int) (q n r p m o s : ByteArray) (dy md pd pre : Bool) (w : World) (hg : VerAt w g (verC x y z q n r)) (hj : VerAt w j (verC a b c p m o)) (hk : ConAt w k #[.pointer (some ⟨j, 0, none⟩), .string ⟨#[]⟩, .string s, .bool md, .bool dy, .bool pd]) (hq : q.size ≤ 2147483654) (hp : p.size ≤ 2147483654) (he : Hid (Errs w)) :
    Calls Tryd.prog 97 #[.pointer (some ⟨g, 0, none⟩), .pointer (some ⟨k, 0, none⟩), .bool pre] w (HoldPost (tildeB pre q p x y z a b c md pd) w) := by
  unfold tildeB
  cases h1 : q.toList.isEmpty with
  | true =>
    have h1' : q.toList = [] := by simpa using h1
    rw [if_neg (by simp)]
    cases hl : decide (cmpI x y z q a b c p < 0) with
    | true => rw [if_pos rfl]; exact tilde_low_e g j k x y z a b c q n r p m o s dy md pd pre w hg hj hk hq hp he h1 (Lib.hid hl)
    | false =>
      rw [if_neg (by decide)]
      cases za : (a == 0) with
      | false => rw [if_neg (by simp)]; exact tilde_e1 g j k x y z a b c q n r p m o s dy md pd pre w hg hj hk hq hp he h1'  (Lib.hid hl) za
      | true =>
        have za' : a = 0 := beq_iff_eq.1 za
        cases zb : (b == 0) with
        | false => rw [if_neg (by simp)]; exact tilde_e2 g j k x y z a b c q n r p m o s dy md pd pre w hg hj hk hq hp he h1'  (Lib.hid hl) za' zb
        | true =>
          have zb' : b = 0 := beq_iff_eq.1 zb
          cases zc : (c == 0) with
          | false => rw [if_neg (by simp)]; exact tilde_e3 g j k x y z a b c q n r p m o s dy md pd pre w hg hj hk hq hp he h1'  (Lib.hid hl) za' zb' zc
          | true =>
            have zc' : c = 0 := beq_iff_eq.1 zc
            cases z1 : md with
            | true => subst z1; rw [if_neg (by simp)]; exact tilde_e4 g j k x y z a b c q n r p m o s dy true pd pre w hg hj hk hq hp he h1'  (Lib.hid hl) za' zb' zc' rfl
            | false =>
              subst z1
              cases z2 : pd with
              | true => subst z2; rw [if_neg (by simp)]; exact tilde_e5 g j k x y z a b c q n r p m o s dy false true pre w hg hj hk hq hp he h1'  (Lib.hid hl) za' zb' zc' rfl rfl
              | false => subst z2; rw [if_pos (by simp)]; exact tilde_zero_e g j k x y z a b c q n r p m o s dy false false pre w hg hj hk hq hp he h1 (Lib.hid hl) za' zb' zc' rfl rfl
  | false =>
    cases h2 : pre with
    | false => subst h2; rw [if_pos (by simp)]; exact tilde_shut g j k x y z a b c q n r p m o s dy md pd false w hg hj hk hq hp he h1 rfl
    | true =>
      rw [if_neg (by simp)]
      subst h2
      cases hl : decide (cmpI x y z q a b c p < 0) with
      | true => rw [if_pos rfl]; exact tilde_low_o g j k x y z a b c q n r p m o s dy md pd true w hg hj hk hq hp he h1 rfl (Lib.hid hl)
      | false =>
        rw [if_neg (by decide)]
        cases za : (a == 0) with
        | false => rw [if_neg (by simp)]; exact tilde_o1 g j k x y z a b c q n r p m o s dy md pd true w hg hj hk hq hp he h1 rfl (Lib.hid hl) za
        | true =>
          have za' : a = 0 := beq_iff_eq.1 za
          cases zb : (b == 0) with
          | false => rw [if_neg (by simp)]; exact tilde_o2 g j k x y z a b c q n r p m o s dy md pd true w hg hj hk hq hp he h1 rfl (Lib.hid hl) za' zb
          | true =>
            have zb' : b = 0 := beq_iff_eq.1 zb
            cases zc : (c == 0) with
            | false => rw [if_neg (by simp)]; exact tilde_o3 g j k x y z a b c q n r p m o s dy md pd true w hg hj hk hq hp he h1 rfl (Lib.hid hl) za' zb' zc
            | true =>
              have zc' : c = 0 := beq_iff_eq.1 zc
              cases z1 : md with
              | true => subst z1; rw [if_neg (by simp)]; exact tilde_o4 g j k x y z a b c q n r p m o s dy true pd true w hg hj hk hq hp he h1 rfl (Lib.hid hl) za' zb' zc' rfl
              | false =>
                subst z1
                cases z2 : pd with
                | true => subst z2; rw [if_neg (by simp)]; exact tilde_o5 g j k x y z a b c q n r p m o s dy false true true w hg hj hk hq hp he h1 rfl (Lib.hid hl) za' zb' zc' rfl rfl
                | false => subst z2; rw [if_pos (by simp)]; exact tilde_zero_o g j k x y z a b c q n r p m o s dy false false true w hg hj hk hq hp he h1 rfl (Lib.hid hl) za' zb' zc' rfl rfl
end Go.Proofs.YtdlpcfhhpjjjmaaDoor
