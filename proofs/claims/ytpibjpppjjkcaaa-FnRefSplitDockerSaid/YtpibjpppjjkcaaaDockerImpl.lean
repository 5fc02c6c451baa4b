/- reference.splitDockerDomain over bytes below 128. -/
import Derived.Test.YtpibjpppjjkcaaaPDocker
import Derived.Test.YtpibjpppjjkcaaaRefCut
namespace Go.Proofs.Ytpibjpppjjkcaaa
open Go.RowKit

set_option maxRecDepth 100000 in
set_option maxHeartbeats 1000000 in
theorem dockerI_none (s : ByteArray) (hs : s.size ≤ 65536) (hk : fstInt s.data.toList 47 < 0) (w : World) :
    Calls Try.prog 35 #[.string s] w (TwoPost hubB (libB ++ s) w) := by
  go_enter Try.func35, Try.ntmps35
  go_wp2_with fail
  refine (cutRf_no s 47 (by unfold maxLen; omega) hk _).mono ?_
  rintro e w' ⟨rfl, n, rfl⟩
  go_wp2_with fail
  go_ret2
  exact ⟨rfl, below_drewN (Below.refl _ _) n⟩

set_option maxRecDepth 100000 in
set_option maxHeartbeats 1000000 in
theorem dockerI_loc (s : ByteArray) (k : Nat) (hs : s.size ≤ 65536) (hlt : k < s.size) (hk : Hid (fstInt s.data.toList ((47 : UInt8).toNat : Int) = k))
    (h1 : ((s.extract 0 k).toList == [108, 111, 99, 97, 108, 104, 111, 115, 116]) = true) (h2 : ((s.extract 0 k).toList == [100, 111, 99, 107, 101, 114, 46, 105, 111]) = false) (w : World) :
    Calls Try.prog 35 #[.string s] w (TwoPost (s.extract 0 k) (s.extract (k + 1) s.size) w) := by
  go_enter Try.func35, Try.ntmps35
  go_wp2_with fail
  refine (cutRf_yes s 47 k (by unfold maxLen; omega) hlt hk _).mono ?_
  rintro e w' ⟨rfl, n, rfl⟩
  go_wp2_with fail
  go_ret2
  exact ⟨rfl, below_drewN (Below.refl _ _) n⟩
set_option maxRecDepth 100000 in
set_option maxHeartbeats 1000000 in
theorem dockerI_old_no (s : ByteArray) (k : Nat) (hs : s.size ≤ 65536) (hlt : k < s.size) (hp : Hid (plainB s.data.toList = true)) (hk : Hid (fstInt s.data.toList ((47 : UInt8).toNat : Int) = k))
    (h1 : ((s.extract 0 k).toList == [108, 111, 99, 97, 108, 104, 111, 115, 116]) = false) (h2 : ((s.extract 0 k).toList == [105, 110, 100, 101, 120, 46, 100, 111, 99, 107, 101, 114, 46, 105, 111]) = true) (h6 : fstB (s.extract (k + 1) s.size) 47 < 0) (w : World) :
    Calls Try.prog 35 #[.string s] w (TwoPost hubB (libB ++ (s.extract (k + 1) s.size)) w) := by
  have HP := Lib.hid (plainB_ext s hp 0 k)
  have HR := Lib.hid (plainB_ext s hp (k + 1) s.size)
  have hs1 := ext_size s 0 k
  have hs2 := ext_size s (k + 1) s.size
  go_enter Try.func35, Try.ntmps35
  go_wp2_with fail
  refine (cutRf_yes s 47 k (by unfold maxLen; omega) hlt hk _).mono ?_
  rintro e w1 ⟨rfl, n, rfl⟩
  have hb1 := below_drewN (Below.refl w.heap.size w) n
  generalize s.extract 0 k = one at *
  generalize s.extract (k + 1) s.size = rest at *
  have h7 : decide (0 ≤ fstB rest 47) = false := decide_eq_false (by omega)
  go_wp2_with fail
  refine (containsRuneB _ 47 (by omega) (by omega) HR _).mono ?_
  rintro e w2 ⟨rfl, hb2⟩
  go_wp2_with fail
  go_ret2
  exact ⟨rfl, hb1.trans hb2⟩


set_option maxRecDepth 100000 in
set_option maxHeartbeats 1000000 in
theorem dockerI_old_yes (s : ByteArray) (k : Nat) (hs : s.size ≤ 65536) (hlt : k < s.size) (hp : Hid (plainB s.data.toList = true)) (hk : Hid (fstInt s.data.toList ((47 : UInt8).toNat : Int) = k))
    (h1 : ((s.extract 0 k).toList == [108, 111, 99, 97, 108, 104, 111, 115, 116]) = false) (h2 : ((s.extract 0 k).toList == [105, 110, 100, 101, 120, 46, 100, 111, 99, 107, 101, 114, 46, 105, 111]) = true) (h6 : 0 ≤ fstB (s.extract (k + 1) s.size) 47) (w : World) :
    Calls Try.prog 35 #[.string s] w (TwoPost hubB (s.extract (k + 1) s.size) w) := by
  have HP := Lib.hid (plainB_ext s hp 0 k)
  have HR := Lib.hid (plainB_ext s hp (k + 1) s.size)
  have hs1 := ext_size s 0 k
  have hs2 := ext_size s (k + 1) s.size
  go_enter Try.func35, Try.ntmps35
  go_wp2_with fail
  refine (cutRf_yes s 47 k (by unfold maxLen; omega) hlt hk _).mono ?_
  rintro e w1 ⟨rfl, n, rfl⟩
  have hb1 := below_drewN (Below.refl w.heap.size w) n
  generalize s.extract 0 k = one at *
  generalize s.extract (k + 1) s.size = rest at *
  go_wp2_with fail
  refine (containsRuneB _ 47 (by omega) (by omega) HR _).mono ?_
  rintro e w2 ⟨rfl, hb2⟩
  go_wp2_with fail
  go_ret2
  exact ⟨rfl, hb1.trans hb2⟩


set_option maxRecDepth 100000 in
set_option maxHeartbeats 1000000 in
theorem dockerI_two_other (s : ByteArray) (k : Nat) (hs : s.size ≤ 65536) (hlt : k < s.size) (hp : Hid (plainB s.data.toList = true)) (hk : Hid (fstInt s.data.toList ((47 : UInt8).toNat : Int) = k))
    (h1 : ((s.extract 0 k).toList == [108, 111, 99, 97, 108, 104, 111, 115, 116]) = false) (h2 : ((s.extract 0 k).toList == [105, 110, 100, 101, 120, 46, 100, 111, 99, 107, 101, 114, 46, 105, 111]) = false) (h3 : twoB (s.extract 0 k) = true) (h5 : ((s.extract 0 k).toList == [100, 111, 99, 107, 101, 114, 46, 105, 111]) = false) (w : World) :
    Calls Try.prog 35 #[.string s] w (TwoPost (s.extract 0 k) (s.extract (k + 1) s.size) w) := by
  have HP := Lib.hid (plainB_ext s hp 0 k)
  have HR := Lib.hid (plainB_ext s hp (k + 1) s.size)
  have hs1 := ext_size s 0 k
  have hs2 := ext_size s (k + 1) s.size
  go_enter Try.func35, Try.ntmps35
  go_wp2_with fail
  refine (cutRf_yes s 47 k (by unfold maxLen; omega) hlt hk _).mono ?_
  rintro e w1 ⟨rfl, n, rfl⟩
  have hb1 := below_drewN (Below.refl w.heap.size w) n
  generalize s.extract 0 k = one at *
  generalize s.extract (k + 1) s.size = rest at *
  go_wp2_with fail
  refine (containsAnyB _ HP _).mono ?_
  rintro e w2 ⟨rfl, hb2⟩
  go_wp2_with fail
  go_ret2
  exact ⟨rfl, hb1.trans hb2⟩


set_option maxRecDepth 100000 in
set_option maxHeartbeats 1000000 in
theorem dockerI_two_no (s : ByteArray) (k : Nat) (hs : s.size ≤ 65536) (hlt : k < s.size) (hp : Hid (plainB s.data.toList = true)) (hk : Hid (fstInt s.data.toList ((47 : UInt8).toNat : Int) = k))
    (h1 : ((s.extract 0 k).toList == [108, 111, 99, 97, 108, 104, 111, 115, 116]) = false) (h2 : ((s.extract 0 k).toList == [105, 110, 100, 101, 120, 46, 100, 111, 99, 107, 101, 114, 46, 105, 111]) = false) (h3 : twoB (s.extract 0 k) = true) (h5 : ((s.extract 0 k).toList == [100, 111, 99, 107, 101, 114, 46, 105, 111]) = true) (h6 : fstB (s.extract (k + 1) s.size) 47 < 0) (w : World) :
    Calls Try.prog 35 #[.string s] w (TwoPost (s.extract 0 k) (libB ++ (s.extract (k + 1) s.size)) w) := by
  have HP := Lib.hid (plainB_ext s hp 0 k)
  have HR := Lib.hid (plainB_ext s hp (k + 1) s.size)
  have hs1 := ext_size s 0 k
  have hs2 := ext_size s (k + 1) s.size
  go_enter Try.func35, Try.ntmps35
  go_wp2_with fail
  refine (cutRf_yes s 47 k (by unfold maxLen; omega) hlt hk _).mono ?_
  rintro e w1 ⟨rfl, n, rfl⟩
  have hb1 := below_drewN (Below.refl w.heap.size w) n
  generalize s.extract 0 k = one at *
  generalize s.extract (k + 1) s.size = rest at *
  have h7 : decide (0 ≤ fstB rest 47) = false := decide_eq_false (by omega)
  go_wp2_with fail
  refine (containsAnyB _ HP _).mono ?_
  rintro e w2 ⟨rfl, hb2⟩
  go_wp2_with fail
  refine (containsRuneB _ 47 (by omega) (by omega) HR _).mono ?_
  rintro e w3 ⟨rfl, hb3⟩
  go_wp2_with fail
  go_ret2
  exact ⟨rfl, (hb1.trans hb2).trans (hb3.mono hb2.size)⟩


set_option maxRecDepth 100000 in
set_option maxHeartbeats 1000000 in
theorem dockerI_two_yes (s : ByteArray) (k : Nat) (hs : s.size ≤ 65536) (hlt : k < s.size) (hp : Hid (plainB s.data.toList = true)) (hk : Hid (fstInt s.data.toList ((47 : UInt8).toNat : Int) = k))
    (h1 : ((s.extract 0 k).toList == [108, 111, 99, 97, 108, 104, 111, 115, 116]) = false) (h2 : ((s.extract 0 k).toList == [105, 110, 100, 101, 120, 46, 100, 111, 99, 107, 101, 114, 46, 105, 111]) = false) (h3 : twoB (s.extract 0 k) = true) (h5 : ((s.extract 0 k).toList == [100, 111, 99, 107, 101, 114, 46, 105, 111]) = true) (h6 : 0 ≤ fstB (s.extract (k + 1) s.size) 47) (w : World) :
    Calls Try.prog 35 #[.string s] w (TwoPost (s.extract 0 k) (s.extract (k + 1) s.size) w) := by
  have HP := Lib.hid (plainB_ext s hp 0 k)
  have HR := Lib.hid (plainB_ext s hp (k + 1) s.size)
  have hs1 := ext_size s 0 k
  have hs2 := ext_size s (k + 1) s.size
  go_enter Try.func35, Try.ntmps35
  go_wp2_with fail
  refine (cutRf_yes s 47 k (by unfold maxLen; omega) hlt hk _).mono ?_
  rintro e w1 ⟨rfl, n, rfl⟩
  have hb1 := below_drewN (Below.refl w.heap.size w) n
  generalize s.extract 0 k = one at *
  generalize s.extract (k + 1) s.size = rest at *
  go_wp2_with fail
  refine (containsAnyB _ HP _).mono ?_
  rintro e w2 ⟨rfl, hb2⟩
  go_wp2_with fail
  refine (containsRuneB _ 47 (by omega) (by omega) HR _).mono ?_
  rintro e w3 ⟨rfl, hb3⟩
  go_wp2_with fail
  go_ret2
  exact ⟨rfl, (hb1.trans hb2).trans (hb3.mono hb2.size)⟩


set_option maxRecDepth 100000 in
set_option maxHeartbeats 1000000 in
theorem dockerI_low (s : ByteArray) (k : Nat) (hs : s.size ≤ 65536) (hlt : k < s.size) (hp : Hid (plainB s.data.toList = true)) (hk : Hid (fstInt s.data.toList ((47 : UInt8).toNat : Int) = k))
    (h1 : ((s.extract 0 k).toList == [108, 111, 99, 97, 108, 104, 111, 115, 116]) = false) (h2 : ((s.extract 0 k).toList == [105, 110, 100, 101, 120, 46, 100, 111, 99, 107, 101, 114, 46, 105, 111]) = false) (h3 : twoB (s.extract 0 k) = false) (h4 : ((lowB (s.extract 0 k)).toList == (s.extract 0 k).toList) = false) (h5 : ((s.extract 0 k).toList == [100, 111, 99, 107, 101, 114, 46, 105, 111]) = false) (w : World) :
    Calls Try.prog 35 #[.string s] w (TwoPost (s.extract 0 k) (s.extract (k + 1) s.size) w) := by
  have HP := Lib.hid (plainB_ext s hp 0 k)
  have HR := Lib.hid (plainB_ext s hp (k + 1) s.size)
  have hs1 := ext_size s 0 k
  have hs2 := ext_size s (k + 1) s.size
  go_enter Try.func35, Try.ntmps35
  go_wp2_with fail
  refine (cutRf_yes s 47 k (by unfold maxLen; omega) hlt hk _).mono ?_
  rintro e w1 ⟨rfl, n, rfl⟩
  have hb1 := below_drewN (Below.refl w.heap.size w) n
  generalize s.extract 0 k = one at *
  generalize s.extract (k + 1) s.size = rest at *
  go_wp2_with fail
  refine (containsAnyB _ HP _).mono ?_
  rintro e w2 ⟨rfl, hb2⟩
  go_wp2_with fail
  refine (zzLowerB _ (by omega) HP _).mono ?_
  rintro e w3 ⟨rfl, hb3⟩
  go_wp2_with fail
  go_ret2
  exact ⟨rfl, (hb1.trans hb2).trans (hb3.mono hb2.size)⟩


set_option maxRecDepth 100000 in
set_option maxHeartbeats 1000000 in
theorem dockerI_plain (s : ByteArray) (k : Nat) (hs : s.size ≤ 65536) (hlt : k < s.size) (hp : Hid (plainB s.data.toList = true)) (hk : Hid (fstInt s.data.toList ((47 : UInt8).toNat : Int) = k))
    (h1 : ((s.extract 0 k).toList == [108, 111, 99, 97, 108, 104, 111, 115, 116]) = false) (h2 : ((s.extract 0 k).toList == [105, 110, 100, 101, 120, 46, 100, 111, 99, 107, 101, 114, 46, 105, 111]) = false) (h3 : twoB (s.extract 0 k) = false) (h4 : ((lowB (s.extract 0 k)).toList == (s.extract 0 k).toList) = true) (h6 : 0 ≤ fstB s 47) (w : World) :
    Calls Try.prog 35 #[.string s] w (TwoPost hubB s w) := by
  have HP := Lib.hid (plainB_ext s hp 0 k)
  have HR := Lib.hid (plainB_ext s hp (k + 1) s.size)
  have hs1 := ext_size s 0 k
  have hs2 := ext_size s (k + 1) s.size
  go_enter Try.func35, Try.ntmps35
  go_wp2_with fail
  refine (cutRf_yes s 47 k (by unfold maxLen; omega) hlt hk _).mono ?_
  rintro e w1 ⟨rfl, n, rfl⟩
  have hb1 := below_drewN (Below.refl w.heap.size w) n
  generalize s.extract 0 k = one at *
  generalize s.extract (k + 1) s.size = rest at *
  go_wp2_with fail
  refine (containsAnyB _ HP _).mono ?_
  rintro e w2 ⟨rfl, hb2⟩
  go_wp2_with fail
  refine (zzLowerB _ (by omega) HP _).mono ?_
  rintro e w3 ⟨rfl, hb3⟩
  go_wp2_with fail
  refine (containsRuneB s 47 (by omega) (by omega) hp _).mono ?_
  rintro e w4 ⟨rfl, hb4⟩
  go_wp2_with fail
  go_ret2
  exact ⟨rfl, ((hb1.trans hb2).trans (hb3.mono hb2.size)).trans (hb4.mono (Nat.le_trans hb2.size hb3.size))⟩

end Go.Proofs.Ytpibjpppjjkcaaa
