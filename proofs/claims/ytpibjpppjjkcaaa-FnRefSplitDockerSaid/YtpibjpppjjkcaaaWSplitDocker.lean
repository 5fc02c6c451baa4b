/- FnRefSplitDocker returns true for every input. -/
import Derived.Test.YtpibjpppjjkcaaaDockerImpl
import Derived.Test.YtpibjpppjjkcaaaDockerSpec
import Derived.Test.YtpibjpppjjkcaaaRefPlain
namespace Go.Proofs.Ytpibjpppjjkcaaa
open Go.RowKit

theorem locE : locB.toList = [108, 111, 99, 97, 108, 104, 111, 115, 116] := by rw [ByteArray.toList_eq]; rfl
theorem hubE : hubB.toList = [100, 111, 99, 107, 101, 114, 46, 105, 111] := by rw [ByteArray.toList_eq]; rfl
theorem oldE : oldB.toList = [105, 110, 100, 101, 120, 46, 100, 111, 99, 107, 101, 114, 46, 105, 111] := by rw [ByteArray.toList_eq]; rfl

theorem dom_two (one : ByteArray) (h : twoB one = true) : domB one = true := by unfold domB; rw [h]; rfl
theorem dom_low (one : ByteArray) (h : ((lowB one).toList == one.toList) = false) : domB one = true := by unfold domB; rw [h]; simp
theorem dom_no (one : ByteArray) (h1 : twoB one = false) (h2 : (one.toList == locB.toList) = false) (h : ((lowB one).toList == one.toList) = true) : domB one = false := by
  unfold domB; rw [h1, h2, h]; rfl
theorem two_of (one : ByteArray) : twoB one = (decide (0 ≤ fstB one 46) || decide (0 ≤ fstB one 58)) := rfl

theorem dockerI_all (s : ByteArray) (k : Nat) (hs : s.size ≤ 65536) (hlt : k < s.size) (hp : Hid (plainB s.data.toList = true)) (hk : fstB s 47 = k) (w : World) :
    Calls Try.prog 35 #[.string s] w (TwoPost (SD s k).1 (SD s k).2 w) := by
  have hk' : Hid (fstInt s.data.toList ((47 : UInt8).toNat : Int) = k) := hk
  have hs0 : 0 ≤ fstB s 47 := by omega
  cases h1 : ((s.extract 0 k).toList == locB.toList) with
  | true =>
    rw [SD_loc s k h1]
    exact dockerI_loc s k hs hlt hk' (by rw [← locE]; exact h1) (by rw [← hubE]; exact loc_hub _ h1) w
  | false =>
    cases h2 : ((s.extract 0 k).toList == oldB.toList) with
    | true =>
      rw [SD_old s k h2]
      by_cases h6 : fstB (s.extract (k + 1) s.size) 47 < 0
      · rw [SDend_hub _ h6]
        exact dockerI_old_no s k hs hlt hp hk' (by rw [← locE]; exact h1) (by rw [← oldE]; exact h2) h6 w
      · rw [SDend_slash _ _ (by omega)]
        exact dockerI_old_yes s k hs hlt hp hk' (by rw [← locE]; exact h1) (by rw [← oldE]; exact h2) (by omega) w
    | false =>
      cases h3 : twoB (s.extract 0 k) with
      | true =>
        rw [SD_dom s k h2 (dom_two _ h3)]
        cases h5 : ((s.extract 0 k).toList == hubB.toList) with
        | false =>
          rw [SDend_other _ _ h5]
          exact dockerI_two_other s k hs hlt hp hk' (by rw [← locE]; exact h1) (by rw [← oldE]; exact h2) h3 (by rw [← hubE]; exact h5) w
        | true =>
          by_cases h6 : fstB (s.extract (k + 1) s.size) 47 < 0
          · rw [SDend_hub2 _ _ h5 h6]
            exact dockerI_two_no s k hs hlt hp hk' (by rw [← locE]; exact h1) (by rw [← oldE]; exact h2) h3 (by rw [← hubE]; exact h5) h6 w
          · rw [SDend_slash _ _ (by omega)]
            exact dockerI_two_yes s k hs hlt hp hk' (by rw [← locE]; exact h1) (by rw [← oldE]; exact h2) h3 (by rw [← hubE]; exact h5) (by omega) w
      | false =>
        cases h4 : ((lowB (s.extract 0 k)).toList == (s.extract 0 k).toList) with
        | false =>
          rw [SD_dom s k h2 (dom_low _ h4), SDend_other _ _ (hub_two _ h3)]
          exact dockerI_low s k hs hlt hp hk' (by rw [← locE]; exact h1) (by rw [← oldE]; exact h2) h3 h4 (by rw [← hubE]; exact hub_two _ h3) w
        | true =>
          rw [SD_none s k (dom_no _ h3 h1 h4), SDend_slash _ _ hs0]
          exact dockerI_plain s k hs hlt hp hk' (by rw [← locE]; exact h1) (by rw [← oldE]; exact h2) h3 h4 hs0 w

theorem dockerS_all (s : ByteArray) (k : Nat) (hs : s.size ≤ 65536) (hlt : k < s.size) (hk : fstB s 47 = k) (w : World) :
    Calls Try.prog 15 #[.string s] w (TwoPost (SD s k).1 (SD s k).2 w) := by
  have hk' : Hid (fstB s 47 = k) := hk
  have hs0 : 0 ≤ fstB s 47 := by omega
  by_cases ha : 0 ≤ fstB (s.extract 0 k) 46
  · have h3 : twoB (s.extract 0 k) = true := by rw [two_of, decide_eq_true ha]; rfl
    cases h2 : ((s.extract 0 k).toList == oldB.toList) with
    | true =>
      rw [SD_old s k h2]
      by_cases h6 : fstB (s.extract (k + 1) s.size) 47 < 0
      · rw [SDend_hub _ h6]
        exact dockerS_old_no s k hs hlt hk' hs0 ha (by rw [← oldE]; exact h2) h6 w
      · rw [SDend_slash _ _ (by omega)]
        exact dockerS_old_yes s k hs hlt hk' hs0 ha (by rw [← oldE]; exact h2) (by omega) w
    | false =>
      rw [SD_dom s k h2 (dom_two _ h3)]
      cases h5 : ((s.extract 0 k).toList == hubB.toList) with
      | false =>
        rw [SDend_other _ _ h5]
        exact dockerS_dot s k hs hlt hk' hs0 ha (by rw [← oldE]; exact h2) (by rw [← hubE]; exact h5) w
      | true =>
        by_cases h6 : fstB (s.extract (k + 1) s.size) 47 < 0
        · rw [SDend_hub2 _ _ h5 h6]
          exact dockerS_hub_no s k hs hlt hk' hs0 ha (by rw [← oldE]; exact h2) (by rw [← hubE]; exact h5) h6 w
        · rw [SDend_slash _ _ (by omega)]
          exact dockerS_hub_yes s k hs hlt hk' hs0 ha (by rw [← oldE]; exact h2) (by rw [← hubE]; exact h5) (by omega) w
  · have ha' : decide (0 ≤ fstB (s.extract 0 k) 46) = false := decide_eq_false ha
    have h2 : ((s.extract 0 k).toList == oldB.toList) = false := by
      cases h : ((s.extract 0 k).toList == oldB.toList) with
      | false => rfl
      | true => rw [toList_same h] at ha; exact absurd (by decide) ha
    have h5 : ((s.extract 0 k).toList == hubB.toList) = false := by
      cases h : ((s.extract 0 k).toList == hubB.toList) with
      | false => rfl
      | true => rw [toList_same h] at ha; exact absurd (by decide) ha
    have h2' : ((s.extract 0 k).toList == [105, 110, 100, 101, 120, 46, 100, 111, 99, 107, 101, 114, 46, 105, 111]) = false := by rw [← oldE]; exact h2
    have h5' : ((s.extract 0 k).toList == [100, 111, 99, 107, 101, 114, 46, 105, 111]) = false := by rw [← hubE]; exact h5
    by_cases hb : 0 ≤ fstB (s.extract 0 k) 58
    · have h3 : twoB (s.extract 0 k) = true := by rw [two_of, decide_eq_true hb, Bool.or_true]
      rw [SD_dom s k h2 (dom_two _ h3), SDend_other _ _ h5]
      exact dockerS_colon s k hs hlt hk' hs0 ha' hb h2' h5' w
    · have hb' : decide (0 ≤ fstB (s.extract 0 k) 58) = false := decide_eq_false hb
      have h3 : twoB (s.extract 0 k) = false := by rw [two_of, ha', hb']; rfl
      cases h1 : ((s.extract 0 k).toList == locB.toList) with
      | true =>
        rw [SD_loc s k h1]
        exact dockerS_loc s k hs hlt hk' hs0 ha' hb' (by rw [← locE]; exact h1) h2' h5' w
      | false =>
        cases h4 : ((lowB (s.extract 0 k)).toList == (s.extract 0 k).toList) with
        | false =>
          rw [SD_dom s k h2 (dom_low _ h4), SDend_other _ _ h5]
          exact dockerS_low s k hs hlt hk' hs0 ha' hb' (by rw [← locE]; exact h1) h4 h2' h5' w
        | true =>
          rw [SD_none s k (dom_no _ h3 h1 h4), SDend_slash _ _ hs0]
          exact dockerS_plain s k hs hlt hk' hs0 ha' hb' (by rw [← locE]; exact h1) h4 w

/-- What both splittings give. -/
def splitB (s : ByteArray) : ByteArray × ByteArray := if fstB s 47 < 0 then (hubB, libB ++ s) else SD s (fstIx s.data.toList 47)

theorem fst_nat (s : ByteArray) (h : ¬ fstB s 47 < 0) : fstB s 47 = (fstIx s.data.toList 47 : Nat) ∧ fstIx s.data.toList 47 < s.size := by
  unfold fstB fstInt at *
  by_cases hl : fstIx s.data.toList 47 < s.data.toList.length
  · rw [if_pos hl]; exact ⟨rfl, by rw [← str_len]; exact hl⟩
  · rw [if_neg hl] at h; omega

theorem splitI (s : ByteArray) (hs : s.size ≤ 65536) (hp : Hid (plainB s.data.toList = true)) (w : World) :
    Calls Try.prog 35 #[.string s] w (TwoPost (splitB s).1 (splitB s).2 w) := by
  unfold splitB
  by_cases h : fstB s 47 < 0
  · rw [if_pos h]; exact dockerI_none s hs h w
  · rw [if_neg h]; exact dockerI_all s _ hs (fst_nat s h).2 hp (fst_nat s h).1 w

theorem splitS (s : ByteArray) (hs : s.size ≤ 65536) (w : World) :
    Calls Try.prog 15 #[.string s] w (TwoPost (splitB s).1 (splitB s).2 w) := by
  unfold splitB
  by_cases h : fstB s 47 < 0
  · rw [if_pos h]; exact dockerS_none s hs h w
  · rw [if_neg h]; exact dockerS_all s _ hs (fst_nat s h).2 (fst_nat s h).1 w

set_option maxHeartbeats 1000000 in
theorem zzSplit_any (s d r : ByteArray) (w : World) (h : ∀ w, Calls Try.prog 35 #[.string s] w (TwoPost d r w)) :
    Calls Try.prog 27 #[.string s] w (TwoPost d r w) := by
  have H := Lib.hid h
  clear h
  go_enter Try.func27, Try.ntmps27
  go_wp2_with fail
  refine (H.out _).mono ?_
  rintro e w1 ⟨rfl, hb⟩
  go_wp2_with fail
  go_ret2
  exact ⟨rfl, hb⟩

set_option maxHeartbeats 1000000 in
theorem implSplit_any (s d r : ByteArray) (w : World) (h : ∀ w, Calls Try.prog 35 #[.string s] w (TwoPost d r w)) :
    Calls Try.prog 14 #[.string s] w (TwoPost d r w) := by
  have H := Lib.hid h
  clear h
  go_enter Try.func14, Try.ntmps14
  go_wp2_with fail
  refine (zzSplit_any s d r _ H.out).mono ?_
  rintro e w1 ⟨rfl, hb⟩
  go_wp2_with fail
  go_ret2
  exact ⟨rfl, hb⟩

set_option maxRecDepth 100000 in
set_option maxHeartbeats 1000000 in
theorem split_walk (s : ByteArray) (hs : s.size ≤ maxLen) (w : World) :
    Calls Try.prog 6 #[.string s] w fun e w' => e = .returned (.bool true) ∧ Below w.heap.size w w' := by
  unfold maxLen at hs
  by_cases h1 : s.size ≤ 65536
  · cases hp : plainB s.data.toList with
    | false =>
      have HP := Lib.hid hp
      clear hp
      go_enter Try.func6, Try.ntmps6
      go_wp2_with fail
      refine (refPlain_any s (by unfold maxLen; omega) _).mono ?_
      rintro e w1 ⟨rfl, rfl⟩
      rw [HP]
      go_wp2_with fail
      go_ret
      exact ⟨rfl, Below.refl _ _⟩
    | true =>
      have HP := Lib.hid hp
      clear hp
      have HI := Lib.hid (splitI s h1 HP)
      have HS := Lib.hid (splitS s h1)
      go_enter Try.func6, Try.ntmps6
      go_wp2_with fail
      refine (refPlain_any s (by unfold maxLen; omega) _).mono ?_
      rintro e w1 ⟨rfl, rfl⟩
      rw [HP]
      go_wp2_with fail
      refine (implSplit_any s _ _ _ HI.out).mono ?_
      rintro e w2 ⟨rfl, hb2⟩
      go_wp2_with fail
      refine (HS.out _).mono ?_
      rintro e w3 ⟨rfl, hb3⟩
      generalize splitB s = z
      go_wp2_with fail
      go_ret
      exact ⟨rfl, hb2.trans (hb3.mono hb2.size)⟩
  · by_cases h2 : s.size ≤ 2147483647
    · go_enter Try.func6, Try.ntmps6
      go_wp2_with fail
      go_ret
      exact ⟨rfl, Below.refl _ _⟩
    · go_enter Try.func6, Try.ntmps6
      go_wp2_with fail
      go_ret
      exact ⟨rfl, Below.refl _ _⟩
end Go.Proofs.Ytpibjpppjjkcaaa
