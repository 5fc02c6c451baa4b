/- docker's splitting of a name, plain. -/
import Derived.Test.YtpibjpppjjkcaaaRuneRf
import Derived.Test.YtpibjpppjjkcaaaLow
import Derived.Test.YtpibjpppjjkcaaaRefFirst
import Derived.Test.YtpibjpppjjkcaaaRefSmall
namespace Go.Proofs.Ytpibjpppjjkcaaa
open Go.RowKit

/-- The contracts in words that the walk does not open. -/
def fstB (s : ByteArray) (c : Int) : Int := fstInt s.data.toList c
def twoB (s : ByteArray) : Bool := hasTwo s.data.toList 46 58
def lowB (s : ByteArray) : ByteArray := ⟨(lowL s.data.toList).toArray⟩

theorem containsRuneB (s : ByteArray) (c : Int) (h0 : 0 ≤ c) (h1 : c < 128) (hp : Hid (plainB s.data.toList = true)) (w : World) :
    Calls Try.prog 45 #[.string s, .int .i32 c] w fun e w' => e = .returned (.bool (decide (0 ≤ fstB s c))) ∧ Below w.heap.size w w' := containsRune_any s c h0 h1 hp w
theorem containsAnyB (s : ByteArray) (hp : Hid (plainB s.data.toList = true)) (w : World) :
    Calls Try.prog 43 #[.string s, .string ⟨#[46, 58]⟩] w fun e w' => e = .returned (.bool (twoB s)) ∧ Below w.heap.size w w' := containsAny_any s hp w
theorem zzLowerB (s : ByteArray) (hs : s.size ≤ 2147483647) (hp : Hid (plainB s.data.toList = true)) (w : World) :
    Calls Try.prog 44 #[.string s] w fun e w' => e = .returned (.string (lowB s)) ∧ Below w.heap.size w w' := zzLower_any s hs hp w

theorem refFirstB (s : ByteArray) (c : Int) (hs : s.size ≤ maxLen) (w : World) :
    Calls Try.prog 11 #[.string s, .int .u8 c] w fun e w' => e = .returned (.int .i64 (fstB s c)) ∧ w = w' := refFirst_any s c hs w
theorem refSmallB (s : ByteArray) (hs : s.size ≤ 2147483647) (w : World) :
    Calls Try.prog 28 #[.string s] w fun e w' => e = .returned (.string (lowB s)) ∧ Below w.heap.size w w' := refSmall_any s hs w

def TwoPost (d r : ByteArray) (w : World) (e : Ending) (w' : World) : Prop := e = .returned (.tuple #[.string d, .string r]) ∧ Below w.heap.size w w'

theorem ext_size (s : ByteArray) (i j : Nat) : (s.extract i j).size ≤ s.size := by
  rw [← str_len, data_ext, ← str_len s]
  simp
  omega

def hubB : ByteArray := ⟨#[100, 111, 99, 107, 101, 114, 46, 105, 111]⟩
def oldB : ByteArray := ⟨#[105, 110, 100, 101, 120, 46, 100, 111, 99, 107, 101, 114, 46, 105, 111]⟩
def locB : ByteArray := ⟨#[108, 111, 99, 97, 108, 104, 111, 115, 116]⟩
def libB : ByteArray := ⟨#[108, 105, 98, 114, 97, 114, 121, 47]⟩

/-- Would docker take the text for a domain. -/
def domB (one : ByteArray) : Bool := twoB one || one.toList == locB.toList || !((lowB one).toList == one.toList)

/-- The last step: 'library/' ahead of a rest without a slash in the default domain. -/
def SDend (d r : ByteArray) : ByteArray × ByteArray := if (d.toList == hubB.toList) = true ∧ fstB r 47 < 0 then (d, libB ++ r) else (d, r)

def SD (s : ByteArray) (k : Nat) : ByteArray × ByteArray :=
  if domB (s.extract 0 k) then SDend (if ((s.extract 0 k).toList == oldB.toList) = true then hubB else s.extract 0 k) (s.extract (k + 1) s.size) else SDend hubB s

theorem toList_same {a b : ByteArray} (h : (a.toList == b.toList) = true) : a = b := by
  rw [ByteArray.toList_eq, ByteArray.toList_eq, beq_iff_eq] at h
  exact bytes_ext h

theorem beqB (a b : ByteArray) : (a.toList == b.toList) = (a.data.toList == b.data.toList) := by rw [ByteArray.toList_eq, ByteArray.toList_eq]

theorem SD_loc (s : ByteArray) (k : Nat) (h : ((s.extract 0 k).toList == locB.toList) = true) : SD s k = (s.extract 0 k, s.extract (k + 1) s.size) := by
  have hd : domB (s.extract 0 k) = true := by unfold domB; rw [h]; simp
  have e := toList_same h
  unfold SD
  rw [if_pos hd, e, if_neg (by rw [beqB]; decide)]
  unfold SDend
  rw [if_neg (by rintro ⟨h1, _⟩; rw [beqB] at h1; revert h1; decide)]

theorem SD_old (s : ByteArray) (k : Nat) (h : ((s.extract 0 k).toList == oldB.toList) = true) : SD s k = SDend hubB (s.extract (k + 1) s.size) := by
  have e := toList_same h
  have hd : domB (s.extract 0 k) = true := by rw [e]; decide
  unfold SD
  rw [if_pos hd, if_pos h]

theorem SD_dom (s : ByteArray) (k : Nat) (h0 : ((s.extract 0 k).toList == oldB.toList) = false) (h : domB (s.extract 0 k) = true) : SD s k = SDend (s.extract 0 k) (s.extract (k + 1) s.size) := by
  unfold SD
  rw [if_pos h, h0, if_neg (by simp)]

theorem SD_none (s : ByteArray) (k : Nat) (h : domB (s.extract 0 k) = false) : SD s k = SDend hubB s := by
  unfold SD
  rw [h, if_neg (by simp)]

theorem SDend_hub (r : ByteArray) (h : fstB r 47 < 0) : SDend hubB r = (hubB, libB ++ r) := by
  unfold SDend; rw [if_pos ⟨by rw [beqB]; decide, h⟩]
theorem SDend_hub2 (d r : ByteArray) (h0 : (d.toList == hubB.toList) = true) (h : fstB r 47 < 0) : SDend d r = (d, libB ++ r) := by
  unfold SDend; rw [if_pos ⟨h0, h⟩]
theorem SDend_slash (d r : ByteArray) (h : 0 ≤ fstB r 47) : SDend d r = (d, r) := by
  unfold SDend; rw [if_neg (by omega)]
theorem SDend_other (d r : ByteArray) (h : (d.toList == hubB.toList) = false) : SDend d r = (d, r) := by
  unfold SDend; rw [h, if_neg (by simp)]

theorem hub_two (one : ByteArray) (h : twoB one = false) : (one.toList == hubB.toList) = false := by
  cases hb : (one.toList == hubB.toList) with
  | false => rfl
  | true =>
    rw [toList_same hb] at h
    exact absurd h (by decide)
theorem old_two (one : ByteArray) (h : twoB one = false) : (one.toList == oldB.toList) = false := by
  cases hb : (one.toList == oldB.toList) with
  | false => rfl
  | true =>
    rw [toList_same hb] at h
    exact absurd h (by decide)
theorem loc_hub (one : ByteArray) (h : (one.toList == locB.toList) = true) : (one.toList == hubB.toList) = false := by
  rw [toList_same h, beqB]; decide
theorem loc_old (one : ByteArray) (h : (one.toList == locB.toList) = true) : (one.toList == oldB.toList) = false := by
  rw [toList_same h, beqB]; decide
end Go.Proofs.Ytpibjpppjjkcaaa
