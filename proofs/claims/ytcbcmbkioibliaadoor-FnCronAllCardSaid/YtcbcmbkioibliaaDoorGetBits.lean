/- What cron.getBits, ZZBits and impl.CronBits return. -/
import Derived.Test.YtcbcmbkioibliaaDoorWk
import Derived.Test.YtcbcmbkioibliaaDoorPBits
namespace Go.Proofs.YtcbcmbkioibliaaDoor
open Go.RowKit

set_option maxHeartbeats 400000 in
theorem getBits_one (a b : Nat) (ha : a ≤ b) (hb : b ≤ 63) (w : World) :
    Calls Tryd.prog 24 #[.int .u64 a, .int .u64 b, .int .u64 1] w fun e w' => e = .returned (.int .u64 (GB a b 1 : Nat)) ∧ w = w' := by
  have H := Lib.hid (GB_one a b ha hb)
  go_enter Tryd.func24, Tryd.ntmps24
  go_wp2
  go_ret
  exact ⟨ret_u64 H.out, rfl⟩

set_option maxHeartbeats 400000 in
theorem getBits_many (a b s : Nat) (ha : a ≤ b) (hb : b ≤ 63) (h1 : 1 < s) (h2 : s ≤ 4294967296) (w : World) :
    Calls Tryd.prog 24 #[.int .u64 a, .int .u64 b, .int .u64 s] w fun e w' => e = .returned (.int .u64 (GB a b s : Nat)) ∧ w = w' := by
  have hs : ((s : Int) == 1) = false := by simp; omega
  go_enter Tryd.func24, Tryd.ntmps24
  go_wp2
  go_loop [7, 8] (fun t i => ∃ n : Nat, a ≤ n ∧ n ≤ 4294967296 + 63 ∧ (n - a) % s = 0 ∧ i = .int .u64 n ∧ t = .int .u64 (upTo a b s n : Nat)) (fun _ i => 4294967296 + 64 - (intOf i).toNat)
  case atStart => exact ⟨a, Nat.le_refl _, by omega, by simp, rfl, by rw [upTo_start]; rfl⟩
  case round =>
    obtain ⟨n, han, hn, hm, rfl, rfl⟩ := hrel
    by_cases hlt : n ≤ b
    · have H := Lib.hid (upTo_step a b s n (by omega) han hlt hb hm)
      have HM := Lib.hid (step_mod a s n han hm)
      clear hm
      go_wp2
      go_round
      case rel => exact ⟨n + s, by omega, by omega, HM.out, by go_num, by rw [H.out]⟩
      case measure => simp [intOf]; omega
    · have H := Lib.hid (upTo_end a b s n (by omega))
      clear hm
      go_wp2
      go_ret
      exact ⟨by rw [← H.out]; rfl, rfl⟩

theorem getBits_any (a b s : Nat) (ha : a ≤ b) (hb : b ≤ 63) (h1 : 1 ≤ s) (h2 : s ≤ 4294967296) (w : World) :
    Calls Tryd.prog 24 #[.int .u64 a, .int .u64 b, .int .u64 s] w fun e w' => e = .returned (.int .u64 (GB a b s : Nat)) ∧ w = w' := by
  by_cases h : s = 1
  · subst h; exact getBits_one a b ha hb w
  · exact getBits_many a b s ha hb (by omega) h2 w

set_option maxHeartbeats 400000 in
theorem zzBits_any (a b s : Nat) (ha : a ≤ b) (hb : b ≤ 63) (h1 : 1 ≤ s) (h2 : s ≤ 4294967296) (w : World) :
    Calls Tryd.prog 17 #[.int .u64 a, .int .u64 b, .int .u64 s] w fun e w' => e = .returned (.int .u64 (GB a b s : Nat)) ∧ w = w' := by
  go_enter Tryd.func17, Tryd.ntmps17
  go_wp2_with (go_at_call 24; refine (getBits_any _ _ _ ha hb h1 h2 _).mono ?_; rintro e w' ⟨rfl, rfl⟩)
  go_ret
  exact ⟨rfl, rfl⟩

set_option maxHeartbeats 400000 in
theorem cronBits_any (a b s : Nat) (ha : a ≤ b) (hb : b ≤ 63) (h1 : 1 ≤ s) (h2 : s ≤ 4294967296) (w : World) :
    Calls Tryd.prog 8 #[.int .u64 a, .int .u64 b, .int .u64 s] w fun e w' => e = .returned (.int .u64 (GB a b s : Nat)) ∧ w = w' := by
  go_enter Tryd.func8, Tryd.ntmps8
  go_wp2_with (go_at_call 17; refine (zzBits_any _ _ _ ha hb h1 h2 _).mono ?_; rintro e w' ⟨rfl, rfl⟩)
  go_ret
  exact ⟨rfl, rfl⟩
end Go.Proofs.YtcbcmbkioibliaaDoor
