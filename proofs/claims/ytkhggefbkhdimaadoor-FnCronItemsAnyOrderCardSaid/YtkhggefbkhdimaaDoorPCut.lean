/- A text parted at each byte c. -/
import Derived.Test.YtkhggefbkhdimaaDoorPStr
namespace Go.Proofs.YtkhggefbkhdimaaDoor

/-- The pieces of a text between the bytes c. -/
def cutL (c : Int) : List UInt8 → List (List UInt8)
  | [] => [[]]
  | x :: xs => if ((x.toNat : Int) == c) then [] :: cutL c xs else
    match cutL c xs with
    | [] => [[x]]
    | y :: ys => (x :: y) :: ys

theorem cutL_ne (c : Int) (l : List UInt8) : cutL c l ≠ [] := by
  cases l with
  | nil => simp [cutL]
  | cons x xs =>
    unfold cutL
    split
    · simp
    · split <;> simp

theorem cutL_none (c : Int) (l : List UInt8) (h : fstIx l c = l.length) : cutL c l = [l] := by
  induction l with
  | nil => rfl
  | cons x xs ih =>
    unfold fstIx at h
    rw [List.findIdx_cons] at h
    cases hx : ((x.toNat : Int) == c) with
    | true => rw [hx] at h; simp at h
    | false =>
      rw [hx] at h
      have h' : fstIx xs c = xs.length := by unfold fstIx; simpa using h
      unfold cutL
      rw [hx, ih h']
      simp

theorem cutL_at (c : Int) (l : List UInt8) (h : fstIx l c < l.length) : cutL c l = l.take (fstIx l c) :: cutL c (l.drop (fstIx l c + 1)) := by
  induction l with
  | nil => simp at h
  | cons x xs ih =>
    cases hx : ((x.toNat : Int) == c) with
    | true =>
      have e : fstIx (x :: xs) c = 0 := by unfold fstIx; rw [List.findIdx_cons, hx]; rfl
      rw [e]
      unfold cutL
      rw [hx]
      simp
      cases xs <;> simp [cutL]
    | false =>
      have e : fstIx (x :: xs) c = fstIx xs c + 1 := by unfold fstIx; rw [List.findIdx_cons, hx]; rfl
      rw [e] at h ⊢
      have h' : fstIx xs c < xs.length := by simpa using h
      rw [show cutL c (x :: xs) = (match cutL c xs with | [] => [[x]] | y :: ys => (x :: y) :: ys) from by rw [cutL, hx]; rfl]
      rw [ih h']
      simp

def cutB (c : Int) (s : ByteArray) : List ByteArray := (cutL c s.data.toList).map fun l => ⟨l.toArray⟩

theorem cutB_none (c : Int) (s : ByteArray) (h : fstInt s.data.toList c < 0) : cutB c s = [s] := by
  unfold cutB
  rw [cutL_none c _ (fstIx_none _ _ h)]
  simp

theorem fstInt_ix (l : List UInt8) (c : Int) (k : Nat) (h : fstInt l c = k) : fstIx l c = k ∧ k < l.length := by
  unfold fstInt at h
  split at h
  · exact ⟨by omega, by omega⟩
  · omega

theorem cutB_at (c : Int) (s : ByteArray) (k : Nat) (h : fstInt s.data.toList c = k) : cutB c s = s.extract 0 k :: cutB c (s.extract (k + 1) s.size) ∧ k < s.size := by
  obtain ⟨h1, h2⟩ := fstInt_ix _ _ _ h
  have hk : k < s.size := by rw [← str_len]; exact h2
  refine ⟨?_, hk⟩
  unfold cutB
  rw [cutL_at c _ (by rw [h1]; exact h2), h1, List.map_cons]
  congr 1
  · exact bytes_ext (by rw [data_ext]; simp)
  · congr 2
    rw [data_ext, List.take_of_length_le]
    rw [List.length_drop, str_len]; omega

theorem cutB_ne (c : Int) (s : ByteArray) : cutB c s ≠ [] := by
  unfold cutB; simpa using cutL_ne c _

theorem cutB_len (c : Int) (s : ByteArray) : (cutB c s).length ≤ s.size + 1 := by
  unfold cutB
  rw [List.length_map, ← str_len]
  generalize s.data.toList = l
  induction l with
  | nil => simp [cutL]
  | cons x xs ih =>
    unfold cutL
    split
    · simp; omega
    · split
      · simp
      · rename_i y ys hy
        rw [hy] at ih
        simp at ih ⊢
        omega
end Go.Proofs.YtkhggefbkhdimaaDoor
