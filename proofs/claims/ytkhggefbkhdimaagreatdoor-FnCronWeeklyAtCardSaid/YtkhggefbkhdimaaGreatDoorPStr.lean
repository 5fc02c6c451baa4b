/- Plain facts on texts as lists of bytes. -/
import Derived.WideShapes
import Derived.ChangeKeysEq
namespace Go.Proofs.YtkhggefbkhdimaaGreatDoor

/-- The place of the first byte c, or the length. -/
def fstIx (l : List UInt8) (c : Int) : Nat := l.findIdx (fun b => ((b.toNat : Int) == c))
/-- The place of the first byte c, or -1. -/
def fstInt (l : List UInt8) (c : Int) : Int := if fstIx l c < l.length then (fstIx l c : Int) else -1

theorem fstIx_le (l : List UInt8) (c : Int) : fstIx l c ≤ l.length := List.findIdx_le_length

theorem fstIx_hit (l : List UInt8) (c : Int) (k : Nat) (hk : k < l.length) (h0 : k ≤ fstIx l c) (h : (((l[k]).toNat : Int) == c) = true) : fstIx l c = k := by
  unfold fstIx at *
  rcases Nat.lt_or_ge k (l.findIdx fun b => ((b.toNat : Int) == c)) with h1 | h1
  · have := List.not_of_lt_findIdx h1
    simp only [this] at h
    cases h
  · omega

theorem fstIx_miss (l : List UInt8) (c : Int) (k : Nat) (hk : k < l.length) (h0 : k ≤ fstIx l c) (h : (((l[k]).toNat : Int) == c) = false) : k + 1 ≤ fstIx l c := by
  rcases Nat.lt_or_ge k (fstIx l c) with h1 | h1
  · omega
  · have e : fstIx l c = k := by omega
    exfalso
    have h2 : l.findIdx (fun b => ((b.toNat : Int) == c)) < l.length := by unfold fstIx at e; omega
    have h3 := List.findIdx_getElem (w := h2)
    unfold fstIx at e
    simp only [e] at h3
    rw [h] at h3
    cases h3

theorem fstInt_hit (l : List UInt8) (c : Int) (k : Nat) (hk : k < l.length) (h0 : k ≤ fstIx l c) (h : (((l[k]).toNat : Int) == c) = true) : fstInt l c = k := by
  unfold fstInt
  rw [fstIx_hit l c k hk h0 h, if_pos hk]

theorem fstInt_none (l : List UInt8) (c : Int) (h : l.length ≤ fstIx l c) : fstInt l c = -1 := by
  unfold fstInt
  rw [if_neg (by omega)]

theorem fstInt_lt (l : List UInt8) (c : Int) : fstInt l c < (l.length : Int) := by
  unfold fstInt
  split <;> omega

theorem str_get (s : ByteArray) (k : Nat) (h : k < s.size) : s[k] = s.data.toList[k]'(by simpa using h) := rfl

theorem str_len (s : ByteArray) : s.data.toList.length = s.size := by simp

theorem hitS (s : ByteArray) (c : Int) (k : Nat) (hk : k < s.size) (h0 : k ≤ fstIx s.data.toList c) (h : (((s[k]).toNat : Int) == c) = true) : (k : Int) = fstInt s.data.toList c :=
  (fstInt_hit s.data.toList c k (by rw [str_len]; exact hk) h0 h).symm

theorem missS (s : ByteArray) (c : Int) (k : Nat) (hk : k < s.size) (h0 : k ≤ fstIx s.data.toList c) (h : (((s[k]).toNat : Int) == c) = false) : k + 1 ≤ fstIx s.data.toList c :=
  fstIx_miss s.data.toList c k (by rw [str_len]; exact hk) h0 h

theorem noneS (s : ByteArray) (c : Int) (k : Nat) (hk : ¬ k < s.size) (h0 : k ≤ fstIx s.data.toList c) : (-1 : Int) = fstInt s.data.toList c :=
  (fstInt_none s.data.toList c (by rw [str_len]; omega)).symm

theorem one_byte (s : ByteArray) (k : Nat) (h : k < s.size) : (s.extract k (k + 1)).toList = [s[k]] := by
  have e : (s.extract k (k + 1)).toList = (s.data.toList.drop k).take 1 := by
    rw [ByteArray.toList_eq, ByteArray.data_extract, Array.toList_extract, List.extract_eq_take_drop]
    simp
  rw [e, List.drop_eq_getElem_cons (by rw [str_len]; exact h)]
  rfl

theorem one_test (s : ByteArray) (k : Nat) (h : k < s.size) (c : UInt8) (b : Bool) (ht : ((s.extract k (k + 1)).toList == [c]) = b) : (((s[k]).toNat : Int) == (c.toNat : Int)) = b := by
  rw [one_byte s k h] at ht
  rw [← ht]
  by_cases e : s[k] = c
  · rw [e]; simp
  · have : ¬ (s[k]).toNat = c.toNat := fun h' => e (UInt8.toNat_inj.mp h')
    have h2 : ¬ ((s[k].toNat : Int) = (c.toNat : Int)) := by omega
    rw [beq_eq_false_iff_ne.mpr h2]
    simp [e]

theorem findIdx_app {p : UInt8 → Bool} : ∀ (l r : List UInt8), l.findIdx p = l.length → (l ++ r).findIdx p = l.length + r.findIdx p
  | [], r, _ => by simp
  | x :: l, r, h => by
    rw [List.findIdx_cons] at h
    cases hx : p x with
    | true => rw [hx] at h; simp at h
    | false =>
      rw [hx] at h
      have h' : l.findIdx p = l.length := by simpa using h
      rw [List.cons_append, List.findIdx_cons, hx]
      simp [findIdx_app l r h']
      omega

theorem fstIx_none (l : List UInt8) (c : Int) (h : fstInt l c < 0) : fstIx l c = l.length := by
  unfold fstInt at h
  split at h
  · omega
  · have := fstIx_le l c; omega

theorem fstInt_append (l r : List UInt8) (c : UInt8) (h : fstInt l (c.toNat : Int) < 0) : fstInt (l ++ c :: r) (c.toNat : Int) = l.length := by
  have e : fstIx (l ++ c :: r) (c.toNat : Int) = l.length := by
    have h1 := findIdx_app (p := fun b => ((b.toNat : Int) == (c.toNat : Int))) l (c :: r) (fstIx_none l _ h)
    unfold fstIx
    rw [h1, List.findIdx_cons]
    simp
  unfold fstInt
  rw [e, if_pos (by simp)]

theorem bytes_ext {a b : ByteArray} (h : a.data.toList = b.data.toList) : a = b := by
  cases a; cases b; simp at h; cases h; rfl

theorem data_app (a b : ByteArray) : (a ++ b).data.toList = a.data.toList ++ b.data.toList := by
  rw [ByteArray.data_append, Array.toList_append]

theorem data_ext (s : ByteArray) (i j : Nat) : (s.extract i j).data.toList = (s.data.toList.drop i).take (j - i) := by
  rw [ByteArray.data_extract, Array.toList_extract, List.extract_eq_take_drop]

theorem ext_left (a b : ByteArray) : (a ++ b).extract 0 a.size = a := by
  apply bytes_ext
  rw [data_ext, data_app, List.drop_zero, Nat.sub_zero, ← str_len a, List.take_left]

theorem ext_right (a b : ByteArray) (n : Nat) (hn : n = (a ++ b).size) : (a ++ b).extract a.size n = b := by
  apply bytes_ext
  rw [data_ext, data_app, ← str_len a, List.drop_left, hn, ByteArray.size_append, ← str_len a, ← str_len b, Nat.add_sub_cancel_left, List.take_length]

/-- Is each byte below 128. -/
def plainB (l : List UInt8) : Bool := l.all (fun b => decide (b.toNat < 128))

theorem plainB_get (l : List UInt8) (h : plainB l = true) (k : Nat) (hk : k < l.length) : (l[k]).toNat < 128 := by
  unfold plainB at h
  have := List.all_eq_true.mp h (l[k]) (List.getElem_mem hk)
  simpa using this

theorem plainB_hit (s : ByteArray) (k : Nat) (hk : k < s.size) (h : (128 : Int) ≤ (s[k].toNat : Int)) : false = plainB s.data.toList := by
  cases hp : plainB s.data.toList with
  | false => rfl
  | true =>
    have := plainB_get _ hp k (by rw [str_len]; exact hk)
    rw [← str_get s k hk] at this
    omega

theorem plainB_end (s : ByteArray) (h : ∀ j, (hj : j < s.size) → (s[j]).toNat < 128) : true = plainB s.data.toList := by
  symm
  unfold plainB
  rw [List.all_eq_true]
  intro x hx
  obtain ⟨k, hk, rfl⟩ := List.getElem_of_mem hx
  have := h k (by rw [← str_len]; exact hk)
  exact decide_eq_true this

theorem plainB_at (s : ByteArray) (h : plainB s.data.toList = true) (k : Nat) (hk : k < s.size) : (s[k]).toNat < 128 :=
  plainB_get _ h k (by rw [str_len]; exact hk)

theorem plainB_ext (s : ByteArray) (h : plainB s.data.toList = true) (i j : Nat) : plainB (s.extract i j).data.toList = true := by
  unfold plainB at *
  rw [data_ext]
  rw [List.all_eq_true] at *
  intro x hx
  exact h x (List.mem_of_mem_drop (List.mem_of_mem_take hx))

theorem fst_some (s : ByteArray) (k : Nat) (hk : k < s.size) (c : Int) (h : (((s[k]).toNat : Int) == c) = true) : decide (0 ≤ fstInt s.data.toList c) = true := by
  apply decide_eq_true
  have h1 : fstIx s.data.toList c < s.data.toList.length := by
    unfold fstIx
    exact List.findIdx_lt_length_of_exists ⟨s[k], by rw [str_get s k hk]; exact List.getElem_mem _, h⟩
  unfold fstInt
  rw [if_pos h1]
  omega
end Go.Proofs.YtkhggefbkhdimaaGreatDoor
