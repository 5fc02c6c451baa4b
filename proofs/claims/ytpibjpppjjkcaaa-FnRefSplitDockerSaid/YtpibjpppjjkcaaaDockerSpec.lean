/- spec.RefSplitDocker. -/
import Derived.Test.YtpibjpppjjkcaaaPDocker
import Derived.Deep.QuietTactic
import Derived.BigQuiet
namespace Go.Proofs.Ytpibjpppjjkcaaa
open Go.RowKit

set_option maxRecDepth 100000 in
set_option maxHeartbeats 1000000 in
theorem dockerS_none (s : ByteArray) (hs : s.size ≤ 65536) (hk : fstB s 47 < 0) (w : World) :
    Calls Try.prog 15 #[.string s] w (TwoPost hubB (libB ++ s) w) := by
  go_enter Try.func15, Try.ntmps15
  go_wp2_with fail
  refine (refFirstB _ _ (by unfold maxLen; omega) _).mono ?_
  rintro e w9 ⟨rfl, rfl⟩
  go_wp2_with fail
  refine (refFirstB _ _ (by unfold maxLen; omega) _).mono ?_
  rintro e w9 ⟨rfl, rfl⟩
  go_wp2_with fail
  go_ret2
  exact ⟨rfl, Below.refl _ _⟩

set_option maxRecDepth 100000 in
set_option maxHeartbeats 1000000 in
theorem dockerS_old_no (s : ByteArray) (k : Nat) (hs : s.size ≤ 65536) (hlt : k < s.size) (hk : Hid (fstB s 47 = k)) (hk0 : 0 ≤ fstB s 47)
    (h3 : 0 ≤ fstB (s.extract 0 k) 46) (h7 : ((s.extract 0 k).toList == [105, 110, 100, 101, 120, 46, 100, 111, 99, 107, 101, 114, 46, 105, 111]) = true) (h9 : fstB (s.extract (k + 1) s.size) 47 < 0) (w : World) :
    Calls Try.prog 15 #[.string s] w (TwoPost hubB (libB ++ (s.extract (k + 1) s.size)) w) := by
  have hs1 := ext_size s 0 k
  have hs2 := ext_size s (k + 1) s.size
  have hk1 := hk0
  clear hk0
  go_enter Try.func15, Try.ntmps15
  go_wp2_with fail
  refine (refFirstB _ _ (by unfold maxLen; omega) _).mono ?_
  rintro e w1 ⟨rfl, rfl⟩
  rw [hk]
  go_wp2_with fail
  refine (refFirstB _ _ (by unfold maxLen; omega) _).mono ?_
  rintro e w9 ⟨rfl, rfl⟩
  go_wp2_with fail
  go_quiet (fail)
  go_wp2_with fail
  refine (refFirstB _ _ (by unfold maxLen; omega) _).mono ?_
  rintro e w9 ⟨rfl, rfl⟩
  go_wp2_with fail
  go_ret2
  exact ⟨rfl, below_drewN (Below.refl _ _) _⟩


set_option maxRecDepth 100000 in
set_option maxHeartbeats 1000000 in
theorem dockerS_old_yes (s : ByteArray) (k : Nat) (hs : s.size ≤ 65536) (hlt : k < s.size) (hk : Hid (fstB s 47 = k)) (hk0 : 0 ≤ fstB s 47)
    (h3 : 0 ≤ fstB (s.extract 0 k) 46) (h7 : ((s.extract 0 k).toList == [105, 110, 100, 101, 120, 46, 100, 111, 99, 107, 101, 114, 46, 105, 111]) = true) (h9 : 0 ≤ fstB (s.extract (k + 1) s.size) 47) (w : World) :
    Calls Try.prog 15 #[.string s] w (TwoPost hubB (s.extract (k + 1) s.size) w) := by
  have hs1 := ext_size s 0 k
  have hs2 := ext_size s (k + 1) s.size
  have hk1 := hk0
  clear hk0
  go_enter Try.func15, Try.ntmps15
  go_wp2_with fail
  refine (refFirstB _ _ (by unfold maxLen; omega) _).mono ?_
  rintro e w1 ⟨rfl, rfl⟩
  rw [hk]
  go_wp2_with fail
  refine (refFirstB _ _ (by unfold maxLen; omega) _).mono ?_
  rintro e w9 ⟨rfl, rfl⟩
  go_wp2_with fail
  go_quiet (fail)
  go_wp2_with fail
  refine (refFirstB _ _ (by unfold maxLen; omega) _).mono ?_
  rintro e w9 ⟨rfl, rfl⟩
  go_wp2_with fail
  go_ret2
  exact ⟨rfl, below_drewN (Below.refl _ _) _⟩


set_option maxRecDepth 100000 in
set_option maxHeartbeats 1000000 in
theorem dockerS_hub_no (s : ByteArray) (k : Nat) (hs : s.size ≤ 65536) (hlt : k < s.size) (hk : Hid (fstB s 47 = k)) (hk0 : 0 ≤ fstB s 47)
    (h3 : 0 ≤ fstB (s.extract 0 k) 46) (h7 : ((s.extract 0 k).toList == [105, 110, 100, 101, 120, 46, 100, 111, 99, 107, 101, 114, 46, 105, 111]) = false) (h8 : ((s.extract 0 k).toList == [100, 111, 99, 107, 101, 114, 46, 105, 111]) = true) (h9 : fstB (s.extract (k + 1) s.size) 47 < 0) (w : World) :
    Calls Try.prog 15 #[.string s] w (TwoPost (s.extract 0 k) (libB ++ (s.extract (k + 1) s.size)) w) := by
  have hs1 := ext_size s 0 k
  have hs2 := ext_size s (k + 1) s.size
  have hk1 := hk0
  clear hk0
  go_enter Try.func15, Try.ntmps15
  go_wp2_with fail
  refine (refFirstB _ _ (by unfold maxLen; omega) _).mono ?_
  rintro e w1 ⟨rfl, rfl⟩
  rw [hk]
  go_wp2_with fail
  refine (refFirstB _ _ (by unfold maxLen; omega) _).mono ?_
  rintro e w9 ⟨rfl, rfl⟩
  go_wp2_with fail
  go_quiet (fail)
  go_wp2_with fail
  refine (refFirstB _ _ (by unfold maxLen; omega) _).mono ?_
  rintro e w9 ⟨rfl, rfl⟩
  go_wp2_with fail
  go_ret2
  exact ⟨rfl, below_drewN (Below.refl _ _) _⟩


set_option maxRecDepth 100000 in
set_option maxHeartbeats 1000000 in
theorem dockerS_hub_yes (s : ByteArray) (k : Nat) (hs : s.size ≤ 65536) (hlt : k < s.size) (hk : Hid (fstB s 47 = k)) (hk0 : 0 ≤ fstB s 47)
    (h3 : 0 ≤ fstB (s.extract 0 k) 46) (h7 : ((s.extract 0 k).toList == [105, 110, 100, 101, 120, 46, 100, 111, 99, 107, 101, 114, 46, 105, 111]) = false) (h8 : ((s.extract 0 k).toList == [100, 111, 99, 107, 101, 114, 46, 105, 111]) = true) (h9 : 0 ≤ fstB (s.extract (k + 1) s.size) 47) (w : World) :
    Calls Try.prog 15 #[.string s] w (TwoPost (s.extract 0 k) (s.extract (k + 1) s.size) w) := by
  have hs1 := ext_size s 0 k
  have hs2 := ext_size s (k + 1) s.size
  have hk1 := hk0
  clear hk0
  go_enter Try.func15, Try.ntmps15
  go_wp2_with fail
  refine (refFirstB _ _ (by unfold maxLen; omega) _).mono ?_
  rintro e w1 ⟨rfl, rfl⟩
  rw [hk]
  go_wp2_with fail
  refine (refFirstB _ _ (by unfold maxLen; omega) _).mono ?_
  rintro e w9 ⟨rfl, rfl⟩
  go_wp2_with fail
  go_quiet (fail)
  go_wp2_with fail
  refine (refFirstB _ _ (by unfold maxLen; omega) _).mono ?_
  rintro e w9 ⟨rfl, rfl⟩
  go_wp2_with fail
  go_ret2
  exact ⟨rfl, below_drewN (Below.refl _ _) _⟩


set_option maxRecDepth 100000 in
set_option maxHeartbeats 1000000 in
theorem dockerS_dot (s : ByteArray) (k : Nat) (hs : s.size ≤ 65536) (hlt : k < s.size) (hk : Hid (fstB s 47 = k)) (hk0 : 0 ≤ fstB s 47)
    (h3 : 0 ≤ fstB (s.extract 0 k) 46) (h7 : ((s.extract 0 k).toList == [105, 110, 100, 101, 120, 46, 100, 111, 99, 107, 101, 114, 46, 105, 111]) = false) (h8 : ((s.extract 0 k).toList == [100, 111, 99, 107, 101, 114, 46, 105, 111]) = false) (w : World) :
    Calls Try.prog 15 #[.string s] w (TwoPost (s.extract 0 k) (s.extract (k + 1) s.size) w) := by
  have hs1 := ext_size s 0 k
  have hs2 := ext_size s (k + 1) s.size
  have hk1 := hk0
  clear hk0
  go_enter Try.func15, Try.ntmps15
  go_wp2_with fail
  refine (refFirstB _ _ (by unfold maxLen; omega) _).mono ?_
  rintro e w1 ⟨rfl, rfl⟩
  rw [hk]
  go_wp2_with fail
  refine (refFirstB _ _ (by unfold maxLen; omega) _).mono ?_
  rintro e w9 ⟨rfl, rfl⟩
  go_wp2_with fail
  go_quiet (fail)
  go_wp2_with fail
  go_ret2
  exact ⟨rfl, below_drewN (Below.refl _ _) _⟩


set_option maxRecDepth 100000 in
set_option maxHeartbeats 1000000 in
theorem dockerS_colon (s : ByteArray) (k : Nat) (hs : s.size ≤ 65536) (hlt : k < s.size) (hk : Hid (fstB s 47 = k)) (hk0 : 0 ≤ fstB s 47)
    (h3 : decide (0 ≤ fstB (s.extract 0 k) 46) = false) (h4 : 0 ≤ fstB (s.extract 0 k) 58) (h7 : ((s.extract 0 k).toList == [105, 110, 100, 101, 120, 46, 100, 111, 99, 107, 101, 114, 46, 105, 111]) = false) (h8 : ((s.extract 0 k).toList == [100, 111, 99, 107, 101, 114, 46, 105, 111]) = false) (w : World) :
    Calls Try.prog 15 #[.string s] w (TwoPost (s.extract 0 k) (s.extract (k + 1) s.size) w) := by
  have hs1 := ext_size s 0 k
  have hs2 := ext_size s (k + 1) s.size
  have hk1 := hk0
  clear hk0
  go_enter Try.func15, Try.ntmps15
  go_wp2_with fail
  refine (refFirstB _ _ (by unfold maxLen; omega) _).mono ?_
  rintro e w1 ⟨rfl, rfl⟩
  rw [hk]
  go_wp2_with fail
  refine (refFirstB _ _ (by unfold maxLen; omega) _).mono ?_
  rintro e w9 ⟨rfl, rfl⟩
  go_wp2_with fail
  refine (refFirstB _ _ (by unfold maxLen; omega) _).mono ?_
  rintro e w9 ⟨rfl, rfl⟩
  go_wp2_with fail
  go_quiet (fail)
  go_wp2_with fail
  go_ret2
  exact ⟨rfl, below_drewN (Below.refl _ _) _⟩


set_option maxRecDepth 100000 in
set_option maxHeartbeats 1000000 in
theorem dockerS_loc (s : ByteArray) (k : Nat) (hs : s.size ≤ 65536) (hlt : k < s.size) (hk : Hid (fstB s 47 = k)) (hk0 : 0 ≤ fstB s 47)
    (h3 : decide (0 ≤ fstB (s.extract 0 k) 46) = false) (h4 : decide (0 ≤ fstB (s.extract 0 k) 58) = false) (h5 : ((s.extract 0 k).toList == [108, 111, 99, 97, 108, 104, 111, 115, 116]) = true) (h7 : ((s.extract 0 k).toList == [105, 110, 100, 101, 120, 46, 100, 111, 99, 107, 101, 114, 46, 105, 111]) = false) (h8 : ((s.extract 0 k).toList == [100, 111, 99, 107, 101, 114, 46, 105, 111]) = false) (w : World) :
    Calls Try.prog 15 #[.string s] w (TwoPost (s.extract 0 k) (s.extract (k + 1) s.size) w) := by
  have hs1 := ext_size s 0 k
  have hs2 := ext_size s (k + 1) s.size
  have hk1 := hk0
  clear hk0
  go_enter Try.func15, Try.ntmps15
  go_wp2_with fail
  refine (refFirstB _ _ (by unfold maxLen; omega) _).mono ?_
  rintro e w1 ⟨rfl, rfl⟩
  rw [hk]
  go_wp2_with fail
  refine (refFirstB _ _ (by unfold maxLen; omega) _).mono ?_
  rintro e w9 ⟨rfl, rfl⟩
  go_wp2_with fail
  refine (refFirstB _ _ (by unfold maxLen; omega) _).mono ?_
  rintro e w9 ⟨rfl, rfl⟩
  go_wp2_with fail
  go_quiet (fail)
  go_wp2_with fail
  go_ret2
  exact ⟨rfl, below_drewN (Below.refl _ _) _⟩


set_option maxRecDepth 100000 in
set_option maxHeartbeats 1000000 in
theorem dockerS_low (s : ByteArray) (k : Nat) (hs : s.size ≤ 65536) (hlt : k < s.size) (hk : Hid (fstB s 47 = k)) (hk0 : 0 ≤ fstB s 47)
    (h3 : decide (0 ≤ fstB (s.extract 0 k) 46) = false) (h4 : decide (0 ≤ fstB (s.extract 0 k) 58) = false) (h5 : ((s.extract 0 k).toList == [108, 111, 99, 97, 108, 104, 111, 115, 116]) = false) (h6 : ((lowB (s.extract 0 k)).toList == (s.extract 0 k).toList) = false) (h7 : ((s.extract 0 k).toList == [105, 110, 100, 101, 120, 46, 100, 111, 99, 107, 101, 114, 46, 105, 111]) = false) (h8 : ((s.extract 0 k).toList == [100, 111, 99, 107, 101, 114, 46, 105, 111]) = false) (w : World) :
    Calls Try.prog 15 #[.string s] w (TwoPost (s.extract 0 k) (s.extract (k + 1) s.size) w) := by
  have hs1 := ext_size s 0 k
  have hs2 := ext_size s (k + 1) s.size
  have hk1 := hk0
  clear hk0
  go_enter Try.func15, Try.ntmps15
  go_wp2_with fail
  refine (refFirstB _ _ (by unfold maxLen; omega) _).mono ?_
  rintro e w1 ⟨rfl, rfl⟩
  rw [hk]
  go_wp2_with fail
  refine (refFirstB _ _ (by unfold maxLen; omega) _).mono ?_
  rintro e w9 ⟨rfl, rfl⟩
  go_wp2_with fail
  refine (refFirstB _ _ (by unfold maxLen; omega) _).mono ?_
  rintro e w9 ⟨rfl, rfl⟩
  go_wp2_with fail
  refine (refSmallB _ (by omega) _).mono ?_
  rintro e w2 ⟨rfl, hb⟩
  go_wp2_with fail
  go_quiet (fail)
  go_wp2_with fail
  go_ret2
  exact ⟨rfl, below_drewN hb _⟩


set_option maxRecDepth 100000 in
set_option maxHeartbeats 1000000 in
theorem dockerS_plain (s : ByteArray) (k : Nat) (hs : s.size ≤ 65536) (hlt : k < s.size) (hk : Hid (fstB s 47 = k)) (hk0 : 0 ≤ fstB s 47)
    (h3 : decide (0 ≤ fstB (s.extract 0 k) 46) = false) (h4 : decide (0 ≤ fstB (s.extract 0 k) 58) = false) (h5 : ((s.extract 0 k).toList == [108, 111, 99, 97, 108, 104, 111, 115, 116]) = false) (h6 : ((lowB (s.extract 0 k)).toList == (s.extract 0 k).toList) = true) (w : World) :
    Calls Try.prog 15 #[.string s] w (TwoPost hubB s w) := by
  have hs1 := ext_size s 0 k
  have hs2 := ext_size s (k + 1) s.size
  have hk1 := hk0
  clear hk0
  go_enter Try.func15, Try.ntmps15
  go_wp2_with fail
  refine (refFirstB _ _ (by unfold maxLen; omega) _).mono ?_
  rintro e w1 ⟨rfl, rfl⟩
  rw [hk]
  go_wp2_with fail
  refine (refFirstB _ _ (by unfold maxLen; omega) _).mono ?_
  rintro e w9 ⟨rfl, rfl⟩
  go_wp2_with fail
  refine (refFirstB _ _ (by unfold maxLen; omega) _).mono ?_
  rintro e w9 ⟨rfl, rfl⟩
  go_wp2_with fail
  refine (refSmallB _ (by omega) _).mono ?_
  rintro e w2 ⟨rfl, hb⟩
  go_wp2_with fail
  refine (refFirstB _ _ (by unfold maxLen; omega) _).mono ?_
  rintro e w9 ⟨rfl, rfl⟩
  go_wp2_with fail
  go_ret2
  exact ⟨rfl, hb⟩

end Go.Proofs.Ytpibjpppjjkcaaa
