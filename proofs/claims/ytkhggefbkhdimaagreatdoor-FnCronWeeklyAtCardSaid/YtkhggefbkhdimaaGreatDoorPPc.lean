/- A text parted at a byte, as it is walked from left to right: plain. -/
import Derived.Test.YtkhggefbkhdimaaGreatDoorGPa
namespace Go.Proofs.YtkhggefbkhdimaaGreatDoor
set_option linter.unusedVariables false

theorem pc_list (s : ByteArray) (f : Nat) : (s.extract f s.size).data.toList = s.data.toList.drop f := by
  rw [data_ext, List.take_of_length_le (by rw [List.length_drop, str_len]; exact Nat.le_refl _)]
theorem pc_get (s : ByteArray) (f k : Nat) (hf : f ≤ k) (hk : k < s.size) (h : k - f < (s.data.toList.drop f).length) : (s.data.toList.drop f)[k - f] = s[k] := by
  rw [List.getElem_drop, str_get]
  congr 1
  omega
theorem pc_len (s : ByteArray) (f k : Nat) (hf : f ≤ k) (hk : k < s.size) : k - f < (s.data.toList.drop f).length := by
  rw [List.length_drop, str_len]; omega
theorem pc_miss (s : ByteArray) (f k : Nat) (c : Int) (hf : f ≤ k) (hk : k < s.size) (h0 : k - f ≤ fstIx (s.data.toList.drop f) c) (h : (((s[k]).toNat : Int) == c) = false) : k + 1 - f ≤ fstIx (s.data.toList.drop f) c := by
  have hl := pc_len s f k hf hk
  have := fstIx_miss (s.data.toList.drop f) c (k - f) hl h0 (by rw [pc_get s f k hf hk hl]; exact h)
  omega
theorem pc_hit (s : ByteArray) (f k : Nat) (c : Int) (hf : f ≤ k) (hk : k < s.size) (h0 : k - f ≤ fstIx (s.data.toList.drop f) c) (h : (((s[k]).toNat : Int) == c) = true) : cutB c (s.extract f s.size) = s.extract f k :: cutB c (s.extract (k + 1) s.size) := by
  have hl := pc_len s f k hf hk
  have hh := fstInt_hit (s.data.toList.drop f) c (k - f) hl h0 (by rw [pc_get s f k hf hk hl]; exact h)
  have hc := (cutB_at c (s.extract f s.size) (k - f) (by rw [pc_list]; exact hh)).1
  rw [hc]
  congr 1
  · refine bytes_ext ?_
    rw [data_ext, pc_list, data_ext]
    simp
  · congr 1
    refine bytes_ext ?_
    rw [pc_list, pc_list, pc_list, List.drop_drop]
    congr 1
    omega
theorem pc_end (s : ByteArray) (f : Nat) (c : Int) (h0 : s.size - f ≤ fstIx (s.data.toList.drop f) c) : cutB c (s.extract f s.size) = [s.extract f s.size] := by
  refine cutB_none c _ ?_
  rw [pc_list, fstInt_none _ _ (by rw [List.length_drop, str_len]; exact h0)]
  decide
theorem pc_all (s : ByteArray) : s.extract 0 s.size = s := by
  refine bytes_ext ?_
  rw [pc_list, List.drop_zero]
end Go.Proofs.YtkhggefbkhdimaaGreatDoor
