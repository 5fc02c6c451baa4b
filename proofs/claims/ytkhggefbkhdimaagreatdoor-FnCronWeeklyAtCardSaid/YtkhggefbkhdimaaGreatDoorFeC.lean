/- The closure of cron.Parser.Parse: a field's bits, the error kept in a variable. -/
import Derived.Test.YtkhggefbkhdimaaGreatDoorFdR
import Derived.Lib.BufferOwn
namespace Go.Proofs.YtkhggefbkhdimaaGreatDoor
open Go.RowKit Go.Shelf
set_option linter.unusedVariables false
set_option linter.unusedSimpArgs false

/-- What the variable err holds: nil where all went well so far. -/
def EvIs (s : Bool) (ev : Value) : Prop := (s = true → ev = .nilIface) ∧ (s = false → ∃ t p, ev = .iface t p)
def CloR (E : Nat) (s : Bool) (r : Option Nat) (w : World) (e : Ending) (w' : World) : Prop :=
  ∃ (x : Int) (ev : Value), e = .returned (.int .u64 x) ∧ EvIs (s && r.isSome) ev ∧ ((s && r.isSome) = true → ∃ v : Nat, r = some v ∧ x = v) ∧ w'.cell? ⟨E, 0, none⟩ = some ev ∧ w'.frozen? ⟨E, 0, none⟩ = false ∧ w.grownBy w' (some E)
theorem grown_of_below {w w' : World} {B : Nat} {row : Option Nat} (h : Below w.heap.size w w') : w.grownBy w' row := ⟨h.os, h.tape, h.output, h.size, fun i hi _ => h.block i hi⟩
def GetIs (k lo hi : Nat) (l : List UInt8) (M : Option Nat) (r : Option Nat) : Prop := ∀ W : World, Hid (NamesAt k M W) → Hid (Errs W) → Calls Tryz.prog 70 #[.string (mkB l), .agg #[.int .u64 lo, .int .u64 hi, .map M]] W (FldR r W)
set_option maxHeartbeats 4000000 in
theorem clo_any (k : Nat) (hk : k < 6) (l : List UInt8) (hl : l.length ≤ 2147483654) (M : Option Nat) (w : World) (hM : Hid (NamesAt k M w)) (he : Hid (Errs w)) (E : Nat) (s : Bool) (ev : Value) (hev : EvIs s ev) (hc : w.cell? ⟨E, 0, none⟩ = some ev) (hf : w.frozen? ⟨E, 0, none⟩ = false) :
    Calls Tryz.prog 69 #[.string (mkB l), .agg #[.int .u64 (loK k : Nat), .int .u64 (hiK k : Nat), .map M], .pointer (some ⟨E, 0, none⟩)] w (CloR E s (fieldJ k l) w) := by
  have HG : Hid (GetIs k (loK k) (hiK k) l M (fieldJ k l)) := Lib.hid (fun W h1 h2 => getField_any k hk l hl M W h1 h2)
  generalize loK k = lo at HG ⊢
  generalize hiK k = hi at HG ⊢
  generalize fieldJ k l = R at HG ⊢
  have hEl : E < w.heap.size := cellLt (a := ⟨E, 0, none⟩) hc
  cases s with
  | false =>
    obtain ⟨t0, p0, rfl⟩ := hev.2 rfl
    have hc1 : (w.alloc (.cells #[.int .u64 lo, .int .u64 hi, .map M] 127)).cell? ⟨E, 0, none⟩ = some (.iface t0 p0) := keepV hc
    have hf1 : (w.alloc (.cells #[.int .u64 lo, .int .u64 hi, .map M] 127)).frozen? ⟨E, 0, none⟩ = false := by
      rw [← hf]; exact (Below.frozen (Below.alloc (Below.refl _ _) (Nat.le_refl _) _) (p := ⟨E, 0, none⟩) hEl)
    have HC1 := Lib.hid hc1
    have HF1 := Lib.hid hf1
    have HG1 : Hid (w.grownBy (w.alloc (.cells #[.int .u64 lo, .int .u64 hi, .map M] 127)) (some E)) := Lib.hid (World.grownBy_alloc w _ _)
    clear hf1 hev hf
    go_enter Tryz.func69, Tryz.ntmps69
    go_wp2_with fail
    go_ret
    exact ⟨0, .iface t0 p0, rfl, ⟨(fun h => by cases h), fun _ => ⟨_, _, rfl⟩⟩, (fun h => by cases h), HC1.out, HF1.out, HG1.out⟩
  | true =>
    obtain rfl := hev.1 rfl
    have e0 : (w.alloc (.cells #[.int .u64 lo, .int .u64 hi, .map M] 127)).heap[w.heap.size]? = some (.cells #[.int .u64 lo, .int .u64 hi, .map M] 127) := heap_alloc_new w _
    have hw0 : Below w.heap.size w (w.alloc (.cells #[.int .u64 lo, .int .u64 hi, .map M] 127)) := (by repeat (first | (with_reducible assumption) | (with_reducible exact Below.refl _ _) | (with_reducible refine below_drewN ?_ _) | (with_reducible refine Below.drew ?_) | (with_reducible refine Below.alloc ?_ (by first | omega | (simp <;> omega)) _)))
    have hc1 : (w.alloc (.cells #[.int .u64 lo, .int .u64 hi, .map M] 127)).cell? ⟨E, 0, none⟩ = some .nilIface := keepV hc
    have hf1 : (w.alloc (.cells #[.int .u64 lo, .int .u64 hi, .map M] 127)).frozen? ⟨E, 0, none⟩ = false := by
      rw [← hf]; exact (Below.frozen (Below.alloc (Below.refl _ _) (Nat.le_refl _) _) (p := ⟨E, 0, none⟩) hEl)
    have HMa : Hid (NamesAt k M (w.alloc (.cells #[.int .u64 lo, .int .u64 hi, .map M] 127))) := Lib.hid (hM.out.below hw0)
    have HEa : Hid (Errs (w.alloc (.cells #[.int .u64 lo, .int .u64 hi, .map M] 127))) := Lib.hid (he.out.below hw0)
    have HW0 := Lib.hid hw0
    have HE0 := Lib.hid e0
    have HF1 := Lib.hid hf1
    clear hev hf hf1 hw0 e0
    go_enter Tryz.func69, Tryz.ntmps69
    go_wp2_with fail
    refine (HG.out _ HMa HEa).mono ?_
    intro e w2 h2
    have hb2 : Below (w.alloc (.cells #[.int .u64 lo, .int .u64 hi, .map M] 127)).heap.size (w.alloc (.cells #[.int .u64 lo, .int .u64 hi, .map M] 127)) w2 := by
      cases R with
      | some v => exact h2.2
      | none => exact h2.2
    have hc2 : w2.cell? ⟨E, 0, none⟩ = some .nilIface := cellB hb2 hc1
    have hf2 : w2.frozen? ⟨E, 0, none⟩ = false := by rw [← HF1.out]; exact hb2.frozen (p := ⟨E, 0, none⟩) (cellLt (a := ⟨E, 0, none⟩) hc1)
    have HG2 : Hid (w.grownBy w2 (some E)) := Lib.hid (Lib.grownBy_below (World.grownBy_alloc w _ _) hb2)
    clear hb2 hc1 hc
    cases R with
    | some v =>
      obtain ⟨rfl, _⟩ := h2
      have HC3 : Hid ((w2.setCell ⟨E, 0, none⟩ .nilIface).cell? ⟨E, 0, none⟩ = some .nilIface) := Lib.hid (World.cell?_setCell_same _ _ _ hc2)
      have HF3 : Hid ((w2.setCell ⟨E, 0, none⟩ .nilIface).frozen? ⟨E, 0, none⟩ = false) := Lib.hid (by rw [World.frozen?_setCell]; exact hf2)
      have HG3 : Hid (w.grownBy (w2.setCell ⟨E, 0, none⟩ .nilIface) (some E)) := Lib.hid (Lib.grownBy_setB HG2.out 0 _)
      go_wp2_with fail
      go_ret
      exact ⟨v, .nilIface, rfl, ⟨(fun _ => rfl), (fun h => by cases h)⟩, (fun _ => ⟨v, rfl, rfl⟩), HC3.out, HF3.out, HG3.out⟩
    | none =>
      obtain ⟨⟨n9, t9, p9, rfl⟩, _⟩ := h2
      have HC3 : Hid ((w2.setCell ⟨E, 0, none⟩ (.iface t9 p9)).cell? ⟨E, 0, none⟩ = some (.iface t9 p9)) := Lib.hid (World.cell?_setCell_same _ _ _ hc2)
      have HF3 : Hid ((w2.setCell ⟨E, 0, none⟩ (.iface t9 p9)).frozen? ⟨E, 0, none⟩ = false) := Lib.hid (by rw [World.frozen?_setCell]; exact hf2)
      have HG3 : Hid (w.grownBy (w2.setCell ⟨E, 0, none⟩ (.iface t9 p9)) (some E)) := Lib.hid (Lib.grownBy_setB HG2.out 0 _)
      go_wp2_with fail
      go_ret
      exact ⟨n9, .iface t9 p9, rfl, ⟨(fun h => by cases h), (fun _ => ⟨_, _, rfl⟩)⟩, (fun h => by cases h), HC3.out, HF3.out, HG3.out⟩
end Go.Proofs.YtkhggefbkhdimaaGreatDoor
