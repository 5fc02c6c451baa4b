/- Digest.sepIndex, Algorithm, Encoded of a text with a colon; impl.DigestParts. -/
import Derived.Test.YtpibjpppjjkcaaaIndexDg
import Derived.Defers
import Derived.Recover
namespace Go.Proofs.Ytpibjpppjjkcaaa
open Go.RowKit

set_option maxHeartbeats 400000 in
theorem sepIndex_any (d : ByteArray) (k : Nat) (hd : d.size < maxLen) (hk : Hid (fstInt d.data.toList ((58 : UInt8).toNat : Int) = k)) (w : World) :
    Calls Try.prog 34 #[.string d] w fun e w' => e = .returned (.int .i64 k) ∧ w = w' := by
  go_enter Try.func34, Try.ntmps34
  go_wp2_with fail
  refine (indexDg_any d 58 hd _).mono ?_
  rintro e w' ⟨rfl, rfl⟩
  rw [hk]
  go_wp2_with fail
  go_ret
  exact ⟨rfl, rfl⟩

set_option maxHeartbeats 400000 in
theorem algorithm_any (d : ByteArray) (k : Nat) (hd : d.size < maxLen) (hlt : k < d.size) (hk : Hid (fstInt d.data.toList ((58 : UInt8).toNat : Int) = k)) (w : World) :
    Calls Try.prog 25 #[.string d] w fun e w' => e = .returned (.string (d.extract 0 k)) ∧ w = w' := by
  unfold maxLen at hd
  go_enter Try.func25, Try.ntmps25
  go_wp2_with fail
  refine (sepIndex_any d k hd hk _).mono ?_
  rintro e w' ⟨rfl, rfl⟩
  go_wp2_with fail
  go_ret
  exact ⟨rfl, rfl⟩

set_option maxHeartbeats 400000 in
theorem encoded_any (d : ByteArray) (k : Nat) (hd : d.size < maxLen) (hlt : k < d.size) (hk : Hid (fstInt d.data.toList ((58 : UInt8).toNat : Int) = k)) (w : World) :
    Calls Try.prog 26 #[.string d] w fun e w' => e = .returned (.string (d.extract (k + 1) d.size)) ∧ w = w' := by
  unfold maxLen at hd
  go_enter Try.func26, Try.ntmps26
  go_wp2_with fail
  refine (sepIndex_any d k hd hk _).mono ?_
  rintro e w' ⟨rfl, rfl⟩
  go_wp2_with fail
  go_ret
  exact ⟨rfl, rfl⟩

theorem partsCatch_idle (p q r : Addr) (w : World) :
    CallsD Try.prog 24 #[.pointer (some p), .pointer (some q), .pointer (some r)] .returning w fun e u' w' => e = .returned (.tuple #[]) ∧ u' = .returning ∧ w' = w := by
  refine callsD_of_wpS Try.func24 rfl fun c₀ cs hu => ?_
  apply wpS_seq
  apply wpS_region
  simp [wpOpsS, go_sem, recoverD, hu, Try.ntmps24, Exit.thenS]
  refine wpS_cond (t := false) (by simp [Act.eval, Array.replicate]) ?_
  simp only [Bool.false_eq_true, if_false]
  refine wpS_of_wp (wp_skip ?_)
  cases c₀
  simp_all [bodyPostS, results, Try.results24]

set_option maxHeartbeats 1000000 in
theorem digestParts_any (d : ByteArray) (k : Nat) (hd : d.size < maxLen) (hlt : k < d.size) (hk : Hid (fstInt d.data.toList ((58 : UInt8).toNat : Int) = k)) (w : World) :
    Calls Try.prog 12 #[.string d] w fun e w' => e = .returned (.tuple #[.string (d.extract 0 k), .string (d.extract (k + 1) d.size), .bool true]) ∧ Below w.heap.size w w' := by
  have hmf : ∀ (fn : Fn) (first cap : Array Value) (w : World), (Instr.makeFunc fn first cap).run Try.prog w = .ok (.func fn first cap) w := fun _ _ _ _ => rfl
  go_enter_defers Try.func12, Try.ntmps12
  go_wp2_with fail
  refine (algorithm_any d k hd hlt hk _).mono ?_
  rintro e w' ⟨rfl, rfl⟩
  go_wp2_with fail
  refine (encoded_any d k hd hlt hk _).mono ?_
  rintro e w' ⟨rfl, rfl⟩
  go_wp2_with fail
  refine leaves_cons (f := 24) (args := #[.pointer (some ⟨w.heap.size, 0, none⟩), .pointer (some ⟨w.heap.size + 1, 0, none⟩), .pointer (some ⟨w.heap.size + 2, 0, none⟩)]) (by simp) (by simp [go_sem]) ?_
  refine (partsCatch_idle _ _ _ _).mono ?_
  rintro e u' w'' ⟨rfl, rfl, rfl⟩
  simp [Leaves, settle, results, Try.results12, go_sem]
  exact (((Below.refl _ _).alloc (Nat.le_refl _) _).alloc (by simp) _).alloc (by simp; omega) _
end Go.Proofs.Ytpibjpppjjkcaaa
