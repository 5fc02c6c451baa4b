/- strconv.ParseUint(s, 10, 64) in two ways: a number, or an error; the variables of its errors. -/
import Derived.Test.YtjlbljajgkiniaaDoorWk
import Derived.Test.YtjlbljajgkiniaaDoorShelf
namespace Go.Proofs.YtjlbljajgkiniaaDoor
open Go.RowKit

/-- The two variables of strconv's errors hold an interface value each. -/
def Errs (w : World) : Prop :=
  3 < w.heap.size ∧ 4 < w.heap.size ∧
  (∃ ev, w.cell? ⟨3, 0, none⟩ = some ev ∧ (ev = .nilIface ∨ ∃ te pe, ev = .iface te pe)) ∧
  (∃ ev, w.cell? ⟨4, 0, none⟩ = some ev ∧ (ev = .nilIface ∨ ∃ te pe, ev = .iface te pe))

theorem Errs.below {w w' : World} (h : Errs w) (hb : Below w.heap.size w w') : Errs w' := by
  obtain ⟨l1, l2, ⟨e1, c1, k1⟩, ⟨e2, c2, k2⟩⟩ := h
  refine ⟨Nat.lt_of_lt_of_le l1 hb.size, Nat.lt_of_lt_of_le l2 hb.size, ⟨e1, ?_, k1⟩, ⟨e2, ?_, k2⟩⟩
  · exact (hb.cell (p := ⟨3, 0, none⟩) l1).trans c1
  · exact (hb.cell (p := ⟨4, 0, none⟩) l2).trans c2

theorem Errs.drewN {w : World} (h : Errs w) (n : Nat) : Errs (w.drewN n) := h.below (w' := w.drewN n) ⟨rfl, rfl, rfl, Nat.le_refl _, fun _ _ => rfl⟩

/-- Does ParseUint refuse the text. -/
def badN (s : ByteArray) : Bool := match Lib.parseUintB 64 s.data.toList with | .ok _ => false | _ => true
/-- The number that it gives. -/
def numN (s : ByteArray) : Nat := match Lib.parseUintB 64 s.data.toList with | .ok u => u | _ => 0

def ParseOk (s : ByteArray) (w : World) (e : Ending) (w' : World) : Prop := e = .returned (.tuple #[.int .u64 (numN s : Nat), .nilIface]) ∧ Below w.heap.size w w'
def ParseErr (w : World) (e : Ending) (w' : World) : Prop := ∃ (n : Int) (t : TypeId) (x : Value), e = .returned (.tuple #[.int .u64 n, .iface t x]) ∧ Below w.heap.size w w'

theorem parse_ok (s : ByteArray) (hs : s.size ≤ 2147483655) (h : badN s = false) (w : World) :
    Calls Tryd.prog 86 #[.string s, .int .i64 10, .int .i64 64] w (ParseOk s w) := by
  unfold badN at h
  split at h
  · rename_i u hu
    refine (Tryd.strconv_ParseUint_10_at64_ok s (by omega) u hu w).mono ?_
    rintro e w' ⟨rfl, hw⟩
    refine ⟨by unfold numN; rw [hu], ?_⟩
    rcases hw with rfl | rfl
    · exact Below.refl _ _
    · exact ⟨rfl, rfl, rfl, by rw [Lib.bytesWorld_size]; omega, fun i hi => Lib.bytesWorld_at_old w _ s i hi⟩
  · cases h

theorem parse_err (s : ByteArray) (hs : s.size ≤ 2147483655) (h : badN s = true) (w : World) (he : Errs w) :
    Calls Tryd.prog 86 #[.string s, .int .i64 10, .int .i64 64] w (ParseErr w) := by
  obtain ⟨_, _, ⟨e1, c1, k1⟩, ⟨e2, c2, k2⟩⟩ := he
  cases hp : Lib.parseUintB 64 s.data.toList
  · unfold badN at h; rw [hp] at h; cases h
  · refine (Tryd.strconv_ParseUint_10_at64_syntax s (by omega) hp e1 w c1 k1).mono ?_
    rintro e w' ⟨N, rfl, _, _, hb⟩
    exact ⟨_, _, _, rfl, hb⟩
  · refine (Tryd.strconv_ParseUint_10_at64_range s (by omega) hp e2 w c2 k2).mono ?_
    rintro e w' ⟨N, rfl, _, _, hb⟩
    exact ⟨_, _, _, rfl, hb⟩
end Go.Proofs.YtjlbljajgkiniaaDoor
