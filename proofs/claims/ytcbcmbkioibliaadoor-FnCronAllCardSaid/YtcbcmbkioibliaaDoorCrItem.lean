/- impl.CronItemIn over what getRange answers. -/
import Derived.Test.YtcbcmbkioibliaaDoorCrRangeS
import Derived.Test.YtcbcmbkioibliaaDoorCrRangeT
import Derived.Test.YtcbcmbkioibliaaDoorCrLaw
namespace Go.Proofs.YtcbcmbkioibliaaDoor
open Go.RowKit Go.Shelf
set_option linter.unusedVariables false
set_option linter.unusedSimpArgs false

def RangeIs (t : ByteArray) (low high : Nat) (v : Option Nat) : Prop :=
  ∀ W : World, Calls Tryd.prog 23 #[.string t, .agg #[.int .u64 low, .int .u64 high, .map none]] W (match v with | some v => RangeOk v W | none => RangeErr W)

set_option maxHeartbeats 1000000 in
theorem zzItem_ok (t : ByteArray) (low high v : Nat) (H : Hid (RangeIs t low high (some v))) (w : World) :
    Calls Tryd.prog 16 #[.int .u64 low, .int .u64 high, .string t] w (RangeOk v w) := by
  go_enter Tryd.func16, Tryd.ntmps16
  go_wp2_with fail
  refine (H.out _).mono ?_
  rintro e w1 ⟨rfl, hb⟩
  go_wp2_with fail
  go_ret2
  exact ⟨rfl, hb⟩
set_option maxHeartbeats 1000000 in
theorem zzItem_err (t : ByteArray) (low high v : Nat) (H : Hid (RangeIs t low high none)) (w : World) :
    Calls Tryd.prog 16 #[.int .u64 low, .int .u64 high, .string t] w (RangeErr w) := by
  go_enter Tryd.func16, Tryd.ntmps16
  go_wp2_with fail
  refine (H.out _).mono ?_
  rintro e w1 ⟨⟨t5, p5, rfl⟩, hb⟩
  go_wp2_with fail
  go_ret2
  exact ⟨⟨t5, p5, rfl⟩, hb⟩

theorem bits_ok (v : Nat) (w : World) : Calls Tryd.prog 15 #[.int .u64 v, .nilIface] w fun e w' => e = .returned (.tuple #[.int .u64 v, .bool true]) ∧ w = w' := by
  go_enter Tryd.func15, Tryd.ntmps15
  go_wp2_with fail
  go_ret2
  exact ⟨rfl, rfl⟩
theorem bits_err (v : Nat) (t : TypeId) (p : Value) (w : World) : Calls Tryd.prog 15 #[.int .u64 v, .iface t p] w fun e w' => e = .returned (.tuple #[.int .u64 0, .bool false]) ∧ w = w' := by
  go_enter Tryd.func15, Tryd.ntmps15
  go_wp2_with fail
  go_ret2
  exact ⟨rfl, rfl⟩

set_option maxHeartbeats 1000000 in
theorem item_ok (t : ByteArray) (low high v : Nat) (H : Hid (RangeIs t low high (some v))) : ItemIs t low high v true := by
  intro W
  go_enter Tryd.func7, Tryd.ntmps7
  go_wp2_with fail
  refine (zzItem_ok t low high v H _).mono ?_
  rintro e w1 ⟨rfl, hb⟩
  go_wp2_with fail
  refine (bits_ok v _).mono ?_
  rintro e w2 ⟨rfl, rfl⟩
  go_wp2_with fail
  go_ret2
  exact ⟨rfl, (by repeat (first | (with_reducible assumption) | (with_reducible exact Below.refl _ _) | (with_reducible refine below_drewN ?_ _) | (with_reducible refine Below.drew ?_) | (with_reducible refine Below.alloc ?_ (by first | omega | (simp <;> omega)) _)))⟩

set_option maxHeartbeats 1000000 in
theorem item_err (t : ByteArray) (low high v : Nat) (H : Hid (RangeIs t low high (none))) : ItemIs t low high 0 false := by
  intro W
  go_enter Tryd.func7, Tryd.ntmps7
  go_wp2_with fail
  refine (zzItem_err t low high v H _).mono ?_
  rintro e w1 ⟨⟨t5, p5, rfl⟩, hb⟩
  go_wp2_with fail
  refine (bits_err 0 t5 p5 _).mono ?_
  rintro e w2 ⟨rfl, rfl⟩
  go_wp2_with fail
  go_ret2
  exact ⟨rfl, (by repeat (first | (with_reducible assumption) | (with_reducible exact Below.refl _ _) | (with_reducible refine below_drewN ?_ _) | (with_reducible refine Below.drew ?_) | (with_reducible refine Below.alloc ?_ (by first | omega | (simp <;> omega)) _)))⟩

theorem cut_T (a b k : Nat) : Hid (cutB 47 (rangeT a b ++ ⟨#[47]⟩ ++ decT k) = [rangeT a b, decT k]) := cut_step a b k
theorem size_T (a b k : Nat) (ha : a < 9223372036854775808) (hb : b < 9223372036854775808) (hk : k ≤ 2147483648) : (rangeT a b ++ ⟨#[47]⟩ ++ decT k).size ≤ 62 := by
  have h1 := rangeT_size a b (by omega) (by omega)
  have h2 := decT_size k (by omega)
  rw [ByteArray.size_append, ByteArray.size_append]
  have : (⟨#[47]⟩ : ByteArray).size = 1 := rfl
  omega

theorem itemP_err (low high a b : Nat) (hh : high ≤ 62) (ha : a < 9223372036854775808) (hb : b < 9223372036854775808) (h : a < low ∨ high < b ∨ b < a) : Hid (ItemIs (rangeT a b) low high 0 false) := by
  refine item_err _ low high 0 (fun W => ?_)
  show Calls _ _ _ _ (RangeErr W)
  by_cases c1 : a < low
  · exact rp_lo low high a b hh ha hb W c1
  by_cases c2 : high < b
  · exact rp_hi low high a b hh ha hb W (by omega) c2
  · exact rp_by low high a b hh ha hb W (by omega) (by omega) (by omega)
theorem itemP_ok (low high a b : Nat) (hh : high ≤ 62) (ha : a < 9223372036854775808) (hb : b < 9223372036854775808) (h1 : low ≤ a) (h2 : b ≤ high) (h3 : a ≤ b) : Hid (ItemIs (rangeT a b) low high (GB a b 1) true) :=
  item_ok _ low high _ (fun W => rp_ok low high a b hh ha hb W h1 h2 h3)
theorem itemS_err (low high a b k : Nat) (hh : high ≤ 62) (ha : a < 9223372036854775808) (hb : b < 9223372036854775808) (hk : k ≤ 2147483648) (h : a < low ∨ high < b ∨ b < a ∨ k = 0) : Hid (ItemIs (rangeT a b ++ ⟨#[47]⟩ ++ decT k) low high 0 false) := by
  refine item_err _ low high 0 (fun W => ?_)
  show Calls _ _ _ _ (RangeErr W)
  have hs := size_T a b k ha hb hk
  have hc := cut_T a b k
  have hk' : k < 9223372036854775808 := by omega
  have hk5 : k ≤ 4294967296 := by omega
  generalize rangeT a b ++ ⟨#[47]⟩ ++ decT k = T at hs hc ⊢
  have hkc : k = 0 ∨ k = 1 ∨ 1 < k := by omega
  by_cases c1 : a < low
  · rcases hkc with c | c | c
    · exact rs_lonul low high a b k hh ha hb hk' T hs hc W c1 c
    · exact rs_loone low high a b k hh ha hb hk' T hs hc W c1 c
    · exact rs_lomany low high a b k hh ha hb hk' T hs hc W c1 c hk5
  by_cases c2 : high < b
  · rcases hkc with c | c | c
    · exact rs_hinul low high a b k hh ha hb hk' T hs hc W (by omega) c2 c
    · exact rs_hione low high a b k hh ha hb hk' T hs hc W (by omega) c2 c
    · exact rs_himany low high a b k hh ha hb hk' T hs hc W (by omega) c2 c hk5
  by_cases c3 : b < a
  · rcases hkc with c | c | c
    · exact rs_bynul low high a b k hh ha hb hk' T hs hc W (by omega) (by omega) c3 c
    · exact rs_byone low high a b k hh ha hb hk' T hs hc W (by omega) (by omega) c3 c
    · exact rs_bymany low high a b k hh ha hb hk' T hs hc W (by omega) (by omega) c3 c hk5
  · exact rs_k0 low high a b k hh ha hb hk' T hs hc W (by omega) (by omega) (by omega) (by show k = 0; omega)
theorem itemS_ok (low high a b k : Nat) (hh : high ≤ 62) (ha : a < 9223372036854775808) (hb : b < 9223372036854775808) (hk : k ≤ 2147483648) (h1 : low ≤ a) (h2 : b ≤ high) (h3 : a ≤ b) (h4 : 1 ≤ k) : Hid (ItemIs (rangeT a b ++ ⟨#[47]⟩ ++ decT k) low high (GB a b k) true) := by
  refine item_ok _ low high _ (fun W => ?_)
  show Calls _ _ _ _ (RangeOk _ W)
  have hs := size_T a b k ha hb hk
  have hc := cut_T a b k
  generalize rangeT a b ++ ⟨#[47]⟩ ++ decT k = T at hs hc ⊢
  by_cases c : k = 1
  · exact rs_k1 low high a b k hh ha hb (by omega) T hs hc W h1 h2 h3 c
  · exact rs_km low high a b k hh ha hb (by omega) T hs hc W h1 h2 h3 (by omega) (by omega)
end Go.Proofs.YtcbcmbkioibliaaDoor
