/- semver.comparePrePart. -/
import Derived.Test.YtjlbljajgkiniaaDoorParse
namespace Go.Proofs.YtjlbljajgkiniaaDoor
open Go.RowKit

def cmpNum (b : Bool) : Int := if b then 1 else -1
/-- What comparePrePart gives. -/
def partI (s o : ByteArray) : Int :=
  if s.toList == o.toList then 0 else if s.toList.isEmpty then -1 else if o.toList.isEmpty then 1 else
  match badN o, badN s with
  | true, true => cmpNum (!Op.bytesLess s.toList o.toList)
  | true, false => -1
  | false, true => 1
  | false, false => cmpNum (decide (numN o < numN s))

def PartPost (r : Int) (w : World) (e : Ending) (w' : World) : Prop := e = .returned (.int .i64 r) ∧ Below w.heap.size w w'

set_option maxRecDepth 100000 in
set_option maxHeartbeats 1000000 in
theorem prePart_same (s o : ByteArray) (h : (s.toList == o.toList) = true) (w : World) :
    Calls Tryd.prog 74 #[.string s, .string o] w (PartPost 0 w) := by
  go_enter Tryd.func74, Tryd.ntmps74
  go_wp2_with fail
  go_ret
  exact ⟨rfl, Below.refl _ _⟩

set_option maxRecDepth 100000 in
set_option maxHeartbeats 1000000 in
theorem prePart_sEmpty (s o : ByteArray) (hs : s.toList = []) (hs2 : o.toList.isEmpty = false) (w : World) :
    Calls Tryd.prog 74 #[.string s, .string o] w (PartPost (-1) w) := by
  go_enter Tryd.func74, Tryd.ntmps74
  go_wp2_with fail
  go_ret
  exact ⟨rfl, Below.refl _ _⟩

set_option maxRecDepth 100000 in
set_option maxHeartbeats 1000000 in
theorem prePart_oEmpty (s o : ByteArray) (hs : o.toList = []) (hs2 : s.toList.isEmpty = false) (w : World) :
    Calls Tryd.prog 74 #[.string s, .string o] w (PartPost 1 w) := by
  go_enter Tryd.func74, Tryd.ntmps74
  go_wp2_with fail
  go_ret
  exact ⟨rfl, Below.refl _ _⟩

set_option maxRecDepth 100000 in
set_option maxHeartbeats 1000000 in
theorem prePart_ee (s o : ByteArray) (b : Bool) (hs : s.size ≤ 2147483655) (ho : o.size ≤ 2147483655) (h : (s.toList == o.toList) = false) (h1 : s.toList.isEmpty = false) (h2 : o.toList.isEmpty = false)
    (hb1 : Hid (badN o = true)) (hb2 : Hid (badN s = true)) (hl : Op.bytesLess s.toList o.toList = b) (w : World) (he : Hid (Errs w)) :
    Calls Tryd.prog 74 #[.string s, .string o] w (PartPost (cmpNum (!b)) w) := by
  go_enter Tryd.func74, Tryd.ntmps74
  go_wp2_with fail
  refine (parse_err o ho hb1 _ he).mono ?_
  rintro e w1 ⟨n1, t1, x1, rfl, hw1⟩
  go_wp2_with fail
  refine (parse_err s hs hb2 _ (he.below hw1)).mono ?_
  rintro e w2 ⟨n2, t2, x2, rfl, hw2⟩
  cases b
  all_goals
    go_wp2_with fail
    go_ret
    exact ⟨rfl, hw1.trans (hw2.mono hw1.size)⟩

set_option maxRecDepth 100000 in
set_option maxHeartbeats 1000000 in
theorem prePart_en (s o : ByteArray) (hs : s.size ≤ 2147483655) (ho : o.size ≤ 2147483655) (h : (s.toList == o.toList) = false) (h1 : s.toList.isEmpty = false) (h2 : o.toList.isEmpty = false)
    (hb1 : Hid (badN o = true)) (hb2 : Hid (badN s = false)) (w : World) (he : Hid (Errs w)) :
    Calls Tryd.prog 74 #[.string s, .string o] w (PartPost (-1) w) := by
  go_enter Tryd.func74, Tryd.ntmps74
  go_wp2_with fail
  refine (parse_err o ho hb1 _ he).mono ?_
  rintro e w1 ⟨n1, t1, x1, rfl, hw1⟩
  go_wp2_with fail
  refine (parse_ok s hs hb2 _).mono ?_
  rintro e w2 ⟨rfl, hw2⟩
  go_wp2_with fail
  go_ret
  exact ⟨rfl, hw1.trans (hw2.mono hw1.size)⟩

set_option maxRecDepth 100000 in
set_option maxHeartbeats 1000000 in
theorem prePart_ne (s o : ByteArray) (hs : s.size ≤ 2147483655) (ho : o.size ≤ 2147483655) (h : (s.toList == o.toList) = false) (h1 : s.toList.isEmpty = false) (h2 : o.toList.isEmpty = false)
    (hb1 : Hid (badN o = false)) (hb2 : Hid (badN s = true)) (w : World) (he : Hid (Errs w)) :
    Calls Tryd.prog 74 #[.string s, .string o] w (PartPost 1 w) := by
  go_enter Tryd.func74, Tryd.ntmps74
  go_wp2_with fail
  refine (parse_ok o ho hb1 _).mono ?_
  rintro e w1 ⟨rfl, hw1⟩
  go_wp2_with fail
  refine (parse_err s hs hb2 _ (he.below hw1)).mono ?_
  rintro e w2 ⟨n2, t2, x2, rfl, hw2⟩
  go_wp2_with fail
  go_ret
  exact ⟨rfl, hw1.trans (hw2.mono hw1.size)⟩

set_option maxRecDepth 100000 in
set_option maxHeartbeats 1000000 in
theorem prePart_nn (s o : ByteArray) (b : Bool) (hs : s.size ≤ 2147483655) (ho : o.size ≤ 2147483655) (h : (s.toList == o.toList) = false) (h1 : s.toList.isEmpty = false) (h2 : o.toList.isEmpty = false)
    (hb1 : Hid (badN o = false)) (hb2 : Hid (badN s = false)) (hl : decide (numN o < numN s) = b) (w : World) :
    Calls Tryd.prog 74 #[.string s, .string o] w (PartPost (cmpNum b) w) := by
  go_enter Tryd.func74, Tryd.ntmps74
  go_wp2_with fail
  refine (parse_ok o ho hb1 _).mono ?_
  rintro e w1 ⟨rfl, hw1⟩
  go_wp2_with fail
  refine (parse_ok s hs hb2 _).mono ?_
  rintro e w2 ⟨rfl, hw2⟩
  cases b
  all_goals
    go_wp2_with fail
    go_ret
    exact ⟨rfl, hw1.trans (hw2.mono hw1.size)⟩

theorem prePart_any (s o : ByteArray) (hs : s.size ≤ 2147483655) (ho : o.size ≤ 2147483655) (w : World) (he : Errs w) :
    Calls Tryd.prog 74 #[.string s, .string o] w (PartPost (partI s o) w) := by
  unfold partI
  cases h : (s.toList == o.toList) with
  | true => exact prePart_same s o h w
  | false =>
    cases h1 : s.toList.isEmpty with
    | true =>
      have e1 : s.toList = [] := by simpa using h1
      refine prePart_sEmpty s o e1 ?_ w
      cases h2 : o.toList.isEmpty with
      | false => rfl
      | true => have e2 : o.toList = [] := by simpa using h2
                rw [e1, e2] at h; cases h
    | false =>
      cases h2 : o.toList.isEmpty with
      | true => exact prePart_oEmpty s o (by simpa using h2) h1 w
      | false =>
        cases hb1 : badN o with
        | true =>
          cases hb2 : badN s with
          | true => exact prePart_ee s o _ hs ho h h1 h2 hb1 hb2 rfl w he
          | false => exact prePart_en s o hs ho h h1 h2 hb1 hb2 w he
        | false =>
          cases hb2 : badN s with
          | true => exact prePart_ne s o hs ho h h1 h2 hb1 hb2 w he
          | false => exact prePart_nn s o _ hs ho h h1 h2 hb1 hb2 rfl w
end Go.Proofs.YtjlbljajgkiniaaDoor
