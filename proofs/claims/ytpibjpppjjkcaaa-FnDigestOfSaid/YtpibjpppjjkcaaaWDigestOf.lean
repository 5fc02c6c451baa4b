/- FnDigestOf returns true for every input. -/
import Derived.Test.YtpibjpppjjkcaaaDigestParts
import Derived.Test.YtpibjpppjjkcaaaRefFirst
import Derived.OpenShut
import Derived.Below
namespace Go.Proofs.Ytpibjpppjjkcaaa
open Go.RowKit

set_option maxHeartbeats 400000 in
theorem digestOf_any (a e : ByteArray) (ha : a.size + e.size ≤ 65536) (w : World) :
    Calls Try.prog 10 #[.string a, .string e] w fun x w' => x = .returned (.string (a ++ ⟨#[58]⟩ ++ e)) ∧ w = w' := by
  go_enter Try.func10, Try.ntmps10
  go_wp2
  go_ret
  exact ⟨rfl, rfl⟩

theorem parts_left (a e : ByteArray) : (a ++ ⟨#[58]⟩ ++ e).extract 0 a.size = a := by
  rw [ByteArray.append_assoc]; exact ext_left a _

theorem parts_right (a e : ByteArray) : (a ++ ⟨#[58]⟩ ++ e).extract (a.size + 1) (a ++ ⟨#[58]⟩ ++ e).size = e := by
  have h : a.size + 1 = (a ++ ⟨#[58]⟩).size := by rw [ByteArray.size_append]; rfl
  rw [h]
  exact ext_right _ e _ rfl

theorem parts_at (a e : ByteArray) (h : fstInt a.data.toList 58 < 0) : fstInt (a ++ ⟨#[58]⟩ ++ e).data.toList ((58 : UInt8).toNat : Int) = (a.size : Int) := by
  have h1 := fstInt_append a.data.toList e.data.toList 58 h
  rw [data_app, data_app, List.append_assoc]
  rw [str_len a] at h1
  exact h1

theorem parts_size (a e : ByteArray) : (a ++ ⟨#[58]⟩ ++ e).size = a.size + 1 + e.size := by
  rw [ByteArray.size_append, ByteArray.size_append]; rfl

set_option maxHeartbeats 1000000 in
theorem digestOf_main (a e : ByteArray) (ha : a.size + e.size ≤ 65536) (hc : fstInt a.data.toList 58 < 0) (w : World) :
    Calls Try.prog 5 #[.string a, .string e] w fun x w' => x = .returned (.bool true) ∧ Below w.heap.size w w' := by
  have HK := Lib.hid (parts_at a e hc)
  have HS := Lib.hid (parts_size a e)
  go_enter Try.func5, Try.ntmps5
  go_wp2_with fail
  refine (digestOf_any _ _ ha _).mono ?_
  rintro x w' ⟨rfl, rfl⟩
  go_wp2_with fail
  refine (refFirst_any _ _ (by unfold maxLen; omega) _).mono ?_
  rintro x w' ⟨rfl, rfl⟩
  go_wp2_with fail
  refine (digestParts_any _ a.size (by rw [HS.out]; unfold maxLen; omega) (by rw [HS.out]; omega) HK _).mono ?_
  rintro x w' ⟨rfl, hb⟩
  rw [parts_left, parts_right]
  go_wp2_with fail
  go_ret
  exact ⟨rfl, hb⟩

set_option maxHeartbeats 1000000 in
theorem digestOf_early (a e : ByteArray) (ha : a.size + e.size ≤ 65536) (hc : 0 ≤ fstInt a.data.toList 58) (w : World) :
    Calls Try.prog 5 #[.string a, .string e] w fun x w' => x = .returned (.bool true) ∧ Below w.heap.size w w' := by
  go_enter Try.func5, Try.ntmps5
  go_wp2_with fail
  refine (digestOf_any _ _ ha _).mono ?_
  rintro x w' ⟨rfl, rfl⟩
  go_wp2_with fail
  refine (refFirst_any _ _ (by unfold maxLen; omega) _).mono ?_
  rintro x w' ⟨rfl, rfl⟩
  go_wp2_with fail
  go_ret
  exact ⟨rfl, Below.refl _ _⟩

set_option maxHeartbeats 1000000 in
theorem digestOf_walk (a e : ByteArray) (ha : a.size ≤ maxLen) (he : e.size ≤ maxLen) (w : World) :
    Calls Try.prog 5 #[.string a, .string e] w fun x w' => x = .returned (.bool true) ∧ Below w.heap.size w w' := by
  by_cases h : a.size + e.size ≤ 65536
  · by_cases hc : fstInt a.data.toList 58 < 0
    · exact digestOf_main a e h hc w
    · exact digestOf_early a e h (by omega) w
  · unfold maxLen at ha he
    by_cases h1 : a.size ≤ 2147483647
    · by_cases h2 : e.size ≤ 2147483647
      · go_enter Try.func5, Try.ntmps5
        go_wp2_with fail
        go_ret
        exact ⟨rfl, Below.refl _ _⟩
      · go_enter Try.func5, Try.ntmps5
        go_wp2_with fail
        go_ret
        exact ⟨rfl, Below.refl _ _⟩
    · go_enter Try.func5, Try.ntmps5
      go_wp2_with fail
      go_ret
      exact ⟨rfl, Below.refl _ _⟩
end Go.Proofs.Ytpibjpppjjkcaaa
