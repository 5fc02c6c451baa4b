/- spec.order, ComparePart, ComparePre. -/
import Derived.Test.YtjlbljajgkiniaaDoorPPre
namespace Go.Proofs.YtjlbljajgkiniaaDoor
open Go.RowKit
set_option linter.unusedVariables false
set_option linter.unusedSimpArgs false

set_option maxHeartbeats 400000 in
theorem order_any (a b : Int) (w : World) :
    Calls Tryd.prog 36 #[.int .u64 a, .int .u64 b] w fun e w' => e = .returned (.int .i64 (segI a b)) ∧ w = w' := by
  by_cases h1 : a < b
  · have e : segI a b = -1 := by unfold segI; rw [if_pos h1]
    rw [e]
    go_enter Tryd.func36, Tryd.ntmps36
    go_wp2_with fail
    go_ret
    exact ⟨rfl, rfl⟩
  · by_cases h2 : b < a
    · have e : segI a b = 1 := by unfold segI; rw [if_neg h1, if_pos h2]
      rw [e]
      go_enter Tryd.func36, Tryd.ntmps36
      go_wp2_with fail
      go_ret
      exact ⟨rfl, rfl⟩
    · have e : segI a b = 0 := by unfold segI; rw [if_neg h1, if_neg h2]
      rw [e]
      go_enter Tryd.func36, Tryd.ntmps36
      go_wp2_with fail
      go_ret
      exact ⟨rfl, rfl⟩

theorem sp_same (s o : ByteArray) (h : (s.toList == o.toList) = true) : specPart s o = 0 := by unfold specPart; rw [if_pos h]
theorem sp_dd (s o : ByteArray) (h : (s.toList == o.toList) = false) (h1 : digB s = true) (h2 : digB o = true) (h3 : ¬ s.size = o.size) : specPart s o = segI s.size o.size := by
  unfold specPart; rw [h, h1, h2, decide_eq_false h3]; rfl
theorem sp_de (s o : ByteArray) (b : Bool) (h : (s.toList == o.toList) = false) (h1 : digB s = true) (h2 : digB o = true) (h3 : s.size = o.size) (h4 : Op.bytesLess s.toList o.toList = b) : specPart s o = if b then -1 else 1 := by
  unfold specPart; rw [h, h1, h2, decide_eq_true h3, h4]; rfl
theorem sp_df (s o : ByteArray) (h : (s.toList == o.toList) = false) (h1 : digB s = true) (h2 : digB o = false) : specPart s o = -1 := by
  unfold specPart; rw [h, h1, h2]; rfl
theorem sp_fd (s o : ByteArray) (h : (s.toList == o.toList) = false) (h1 : digB s = false) (h2 : digB o = true) : specPart s o = 1 := by
  unfold specPart; rw [h, h1, h2]; rfl
theorem sp_ff (s o : ByteArray) (b : Bool) (h : (s.toList == o.toList) = false) (h1 : digB s = false) (h2 : digB o = false) (h4 : Op.bytesLess s.toList o.toList = b) : specPart s o = if b then -1 else 1 := by
  unfold specPart; rw [h, h1, h2, h4]; rfl

def SamePost (r : Int) (w : World) (e : Ending) (w' : World) : Prop := e = .returned (.int .i64 r) ∧ w = w'

set_option maxRecDepth 100000 in
set_option maxHeartbeats 2000000 in
theorem cpart_any (s o : ByteArray) (hs : s.size ≤ 2147483654) (ho : o.size ≤ 2147483654) (w : World) :
    Calls Tryd.prog 38 #[.string s, .string o] w (SamePost (specPart s o) w) := by
  cases h : (s.toList == o.toList) with
  | true =>
    have HR := Lib.hid (sp_same s o h)
    rw [HR.out]
    go_enter Tryd.func38, Tryd.ntmps38
    go_wp2_with fail
    go_ret
    exact ⟨rfl, rfl⟩
  | false =>
    cases h1 : digB s with
    | true =>
      have D1 := Lib.hid h1
      cases h2 : digB o with
      | true =>
        have D2 := Lib.hid h2
        by_cases h3 : s.size = o.size
        · obtain ⟨b, hb⟩ : ∃ b, Op.bytesLess s.toList o.toList = b := ⟨_, rfl⟩
          have HR := Lib.hid (sp_de s o b h h1 h2 h3 hb)
          rw [HR.out]
          have h5 : ((s.size : Int) != (o.size : Int)) = false := by simp [h3]
          clear h1 h2
          cases b
          all_goals
            go_enter Tryd.func38, Tryd.ntmps38
            go_wp2_with (first | (go_at_call 56; refine (digits_any _ (by assumption) _).mono ?_; rintro e w' ⟨rfl, rfl⟩; first | rw [D1.out] | rw [D2.out]))
            go_ret
            exact ⟨rfl, rfl⟩
        · have HR := Lib.hid (sp_dd s o h h1 h2 h3)
          rw [HR.out]
          have h5 : ((s.size : Int) != (o.size : Int)) = true := by rw [bne_iff_ne]; omega
          clear h1 h2
          go_enter Tryd.func38, Tryd.ntmps38
          go_wp2_with (first | (go_at_call 56; refine (digits_any _ (by assumption) _).mono ?_; rintro e w' ⟨rfl, rfl⟩; first | rw [D1.out] | rw [D2.out]) | (go_at_call 36; refine (order_any _ _ _).mono ?_; rintro e w' ⟨rfl, rfl⟩))
          go_ret
          exact ⟨rfl, rfl⟩
      | false =>
        have D2 := Lib.hid h2
        have HR := Lib.hid (sp_df s o h h1 h2)
        rw [HR.out]
        clear h1 h2
        go_enter Tryd.func38, Tryd.ntmps38
        go_wp2_with (first | (go_at_call 56; refine (digits_any _ (by assumption) _).mono ?_; rintro e w' ⟨rfl, rfl⟩; first | rw [D1.out] | rw [D2.out]))
        go_ret
        exact ⟨rfl, rfl⟩
    | false =>
      have D1 := Lib.hid h1
      cases h2 : digB o with
      | true =>
        have D2 := Lib.hid h2
        have HR := Lib.hid (sp_fd s o h h1 h2)
        rw [HR.out]
        clear h1 h2
        go_enter Tryd.func38, Tryd.ntmps38
        go_wp2_with (first | (go_at_call 56; refine (digits_any _ (by assumption) _).mono ?_; rintro e w' ⟨rfl, rfl⟩; first | rw [D1.out] | rw [D2.out]))
        go_ret
        exact ⟨rfl, rfl⟩
      | false =>
        have D2 := Lib.hid h2
        obtain ⟨b, hb⟩ : ∃ b, Op.bytesLess s.toList o.toList = b := ⟨_, rfl⟩
        have HR := Lib.hid (sp_ff s o b h h1 h2 hb)
        rw [HR.out]
        clear h1 h2
        cases b
        all_goals
          go_enter Tryd.func38, Tryd.ntmps38
          go_wp2_with (first | (go_at_call 56; refine (digits_any _ (by assumption) _).mono ?_; rintro e w' ⟨rfl, rfl⟩; first | rw [D1.out] | rw [D2.out]))
          go_ret
          exact ⟨rfl, rfl⟩
end Go.Proofs.YtjlbljajgkiniaaDoor
