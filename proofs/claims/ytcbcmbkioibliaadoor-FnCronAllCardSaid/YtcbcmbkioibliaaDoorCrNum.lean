/- cron's numbers: strconv.Itoa, mustParseInt and parseIntOrName at the decimal numeral of a number. -/
import Derived.Test.YtcbcmbkioibliaaDoorPCr
import Derived.Test.YtcbcmbkioibliaaDoorShelf
import Derived.Test.YtcbcmbkioibliaaDoorSplitCr
import Derived.Test.YtcbcmbkioibliaaDoorGetBits
import Derived.Lib.AppendIntMem
import Derived.Lib.ConvBytes
namespace Go.Proofs.YtcbcmbkioibliaaDoor
open Go.RowKit Go.Shelf
set_option linter.unusedVariables false
set_option linter.unusedSimpArgs false

/-- The table of the powers of ten stands. -/
def Tab10 (w : World) : Prop := Lib.TabIs Tryd.prog w "internal/strconv.uint64pow10" .u64 Lib.pow10Tab
theorem Tab10.below {X Y : World} (h : Tab10 X) (hb : Below X.heap.size X Y) : Tab10 Y := by
  have hgn : Tryd.prog.globalNamed "internal/strconv.uint64pow10" = some 0 := by kernel_rfl
  unfold Tab10 Lib.TabIs World.var? at *
  rw [hgn] at h ⊢
  simp only [Option.bind_some] at h ⊢
  have hlt : 0 < X.heap.size := by
    rcases Nat.lt_or_ge 0 X.heap.size with h' | h'
    · exact h'
    · rw [Array.getElem?_eq_none h'] at h; cases h
  rw [hb.block 0 hlt]
  exact h

theorem itoa_cr (u : Nat) (hu : u < 9223372036854775808) (w : World) (ht : Hid (Tab10 w)) :
    Calls Tryd.prog 6 #[.int .i64 u] w fun e w' => e = .returned (.string (decT u)) ∧ Below w.heap.size w w' := by
  refine (Tryd.strconv_Itoa (u : Int) (by omega) (by omega) w ht.out).mono ?_
  rintro e w' ⟨rfl, k, os, rfl⟩
  refine ⟨by rw [Lib.itoa_nonneg]; rfl, Lib.below_grow _ w (Nat.le_refl _) k os⟩

theorem atoi_cr (u : Nat) (hu : u < 9223372036854775808) (w : World) :
    Calls Tryd.prog 48 #[.string (decT u)] w fun e w' => e = .returned (.tuple #[.int .i64 u, .nilIface]) ∧ Below w.heap.size w w' := by
  have hs := decT_size u (by omega)
  refine (Tryd.strconv_Atoi_ok (decT u) (by omega) (u : Int) (by rw [decT_list]; exact dec_atoi u hu) w).mono ?_
  rintro e w' ⟨rfl, hw⟩
  refine ⟨rfl, ?_⟩
  rcases hw with rfl | ⟨t, rfl⟩
  · exact Below.refl _ _
  · exact ⟨rfl, rfl, rfl, by rw [Lib.bytesWorld_size]; omega, fun i hi => Lib.bytesWorld_at_old w _ _ i hi⟩

set_option maxHeartbeats 400000 in
theorem errNew_any (s : ByteArray) (w : World) :
    Calls Tryd.prog 33 #[.string s] w fun e w' => (∃ t p, e = .returned (.iface t p)) ∧ w' = w.alloc (.cells #[.string s] 75) := by
  go_enter Tryd.func33, Tryd.ntmps33
  go_wp2_with fail
  go_ret
  exact ⟨⟨_, _, rfl⟩, rfl⟩

set_option maxHeartbeats 400000 in
theorem mustInt_cr (u : Nat) (hu : u < 9223372036854775808) (w : World) :
    Calls Tryd.prog 34 #[.string (decT u)] w fun e w' => e = .returned (.tuple #[.int .u64 u, .nilIface]) ∧ Below w.heap.size w w' := by
  go_enter Tryd.func34, Tryd.ntmps34
  go_wp2_with fail
  refine (atoi_cr u hu _).mono ?_
  rintro e w' ⟨rfl, hb⟩
  go_wp2_with fail
  refine bodyPost_ret (v := .tuple #[.int .u64 u, .nilIface]) (by simp [results, Tryd.results34, go_sem]) rfl ⟨rfl, hb⟩

theorem neqNil (w : World) : (binOp .neq 47 (.map none) (.map none)).run Tryd.prog w = .ok (.bool false) w := by kernel_rfl
set_option maxHeartbeats 400000 in
theorem intOrName_cr (u : Nat) (hu : u < 9223372036854775808) (w : World) :
    Calls Tryd.prog 32 #[.string (decT u), .map none] w fun e w' => e = .returned (.tuple #[.int .u64 u, .nilIface]) ∧ Below w.heap.size w w' := by
  have hnn := neqNil
  go_enter Tryd.func32, Tryd.ntmps32
  go_wp2_with fail
  refine (mustInt_cr u hu _).mono ?_
  rintro e w' ⟨rfl, hb⟩
  go_wp2_with fail
  refine bodyPost_ret (v := .tuple #[.int .u64 u, .nilIface]) (by simp [results, Tryd.results32, go_sem]) rfl ⟨rfl, hb⟩
end Go.Proofs.YtcbcmbkioibliaaDoor
