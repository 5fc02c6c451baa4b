/- spec.RefSmall: small letters in the place of A to Z. -/
import Derived.Test.YtpibjpppjjkcaaaLow
namespace Go.Proofs.Ytpibjpppjjkcaaa
open Go.RowKit

def smallAt (s : ByteArray) (k : Nat) : List UInt8 := lowL (s.data.toList.take k) ++ List.replicate (s.size - k) 0

theorem smallAt_len (s : ByteArray) (k : Nat) (h : k ≤ s.size) : (smallAt s k).length = s.size := by
  simp [smallAt, lowL_len]; omega

theorem smallAt_zero (s : ByteArray) : (madeCells (Value.int .u8 0).cells (s.size * 1)).toList = Lib.byteCells (smallAt s 0) := by
  show (madeCells #[Value.int .u8 0] (s.size * 1)).toList = _
  rw [toList_madeCells_one]
  simp [smallAt, lowL, Lib.byteCells]

theorem smallAt_end (s : ByteArray) : smallAt s s.size = lowL s.data.toList := by
  have h : s.data.toList.take s.size = s.data.toList := List.take_of_length_le (by rw [str_len]; omega)
  simp [smallAt, h]

theorem smallAt_get (s : ByteArray) (k : Nat) (h : k < s.size) : (Lib.byteCells (smallAt s k))[k]? = some (.int .u8 0) := by
  have h1 : (lowL (s.data.toList.take k)).length = k := by rw [lowL_len, List.length_take, str_len]; omega
  simp [Lib.byteCells, smallAt, h1, show 0 < s.size - k by omega]

theorem smallAt_set (s : ByteArray) (k : Nat) (h : k < s.size) (v : Int) (hv : ((lowU s[k]).toNat : Int) = v) : (Lib.byteCells (smallAt s k)).set k (.int .u8 v) = Lib.byteCells (smallAt s (k + 1)) := by
  subst hv
  have h1 : (lowL (s.data.toList.take k)).length = k := by rw [lowL_len, List.length_take, str_len]; omega
  have h2 : lowL (s.data.toList.take (k + 1)) = lowL (s.data.toList.take k) ++ [lowU s[k]] := by
    rw [List.take_succ_eq_append_getElem (by rw [str_len]; exact h)]; simp [lowL]; rfl
  have h3 : s.size - k = (s.size - (k + 1)) + 1 := by omega
  unfold Lib.byteCells smallAt
  rw [h2, h3, List.replicate_succ, List.map_append, List.map_append, List.map_append, List.set_append_right _ _ (by simp [h1])]
  simp [h1]

set_option maxRecDepth 100000 in
set_option maxHeartbeats 1000000 in
theorem refSmall_any (s : ByteArray) (hs : s.size ≤ 2147483647) (w : World) :
    Calls Try.prog 28 #[.string s] w fun e w' => e = .returned (.string ⟨(lowL s.data.toList).toArray⟩) ∧ Below w.heap.size w w' := by
  obtain ⟨i0, hi, hz0, hz1, hz2⟩ := info_parts Try.infoU8
  go_enter Try.func28, Try.ntmps28
  go_wp2_with (at_make; refine stop_here ?_)
  unfold Stop
  refine wpList_make_full _ rfl _ _ 64 rfl w.heap.size 5 i0 (.int .u8 0) 1 Try.underlying64 hi hz0 hz1 .i64 .i64 _ _ s.size rfl rfl rfl rfl (by rw [hz2]; omega) (by unfold maxLen; omega) (Nat.le_refl _) ?_
  intro w1 hown1 hg1
  rw [smallAt_zero] at hown1
  have hb1 : Below w.heap.size w w1 := Below.grown (Below.refl _ _) hg1 (Nat.le_refl _) (fun k hk => by cases hk)
  clear hg1
  go_wp2
  go_loopw [10] (fun i wr => ∃ k : Nat, k ≤ s.size ∧ i = .int .i64 k ∧ wr.ownsRow w.heap.size 5 1 (.slice (some ⟨w.heap.size, 0, none⟩) s.size s.size) s.size (Lib.byteCells (smallAt s k)) ∧ Below w.heap.size w wr)
    (fun i _ => s.size - (intOf i).toNat)
  case atStart => exact ⟨0, Nat.zero_le _, rfl, hown1, hb1⟩
  case round =>
    obtain ⟨k, hk, rfl, hown, hb⟩ := hrel
    clear hown1 hb1
    by_cases hlt : k < s.size
    · have hcell : wr.cell? ⟨w.heap.size, k, none⟩ = some (.int .u8 0) := (hown.cellAt k (by omega)).trans (smallAt_get s k hlt)
      have hfr : wr.frozen? ⟨w.heap.size, k, none⟩ = false := hown.frozenAt k
      have HS := Lib.hid (fun v hv => smallAt_set s k hlt v hv)
      have HW := Lib.hid hown
      clear hown
      obtain ⟨x, hx⟩ : ∃ x : Int, x = ((s[k]).toNat : Int) := ⟨_, rfl⟩
      have h0 : 0 ≤ x := by omega
      have h255 : x < 256 := by have := (s[k]).toNat_lt; omega
      have HX := Lib.hid hx
      have hget := idxS s k hlt x hx
      clear hx
      go_wp2
      · go_roundw
        case rel =>
          obtain ⟨o1, g1⟩ := HW.out.stored k (.int .u8 x)
          obtain ⟨o2, g2⟩ := o1.stored k (.int .u8 (x + 32))
          refine ⟨k + 1, by omega, by go_num, ?_, Below.grown (Below.grown hb g1 ?_ ?_) g2 ?_ ?_⟩
          · rw [List.set_set, HS.out _ (by rw [low_up _ x HX.out ‹_› ‹_›]; omega)] at o2
            exact o2
          · exact hb.size
          · intro g hg; cases hg; exact Nat.le_refl _
          · rw [World.size_setCell]; exact hb.size
          · intro g hg; cases hg; exact Nat.le_refl _
        case measure => simp [intOf]; omega
      all_goals
        go_roundw
        case rel =>
          obtain ⟨o1, g1⟩ := HW.out.stored k (.int .u8 x)
          refine ⟨k + 1, by omega, by go_num, ?_, Below.grown hb g1 ?_ ?_⟩
          · rw [HS.out _ (by rw [low_same _ x HX.out (by omega)]; exact HX.out.symm)] at o1
            exact o1
          · exact hb.size
          · intro g hg; cases hg; exact Nat.le_refl _
        case measure => simp [intOf]; omega
    · have hcv := conv_own (P := Try.prog) wr 64 9 5 _ _ _ _ hown Try.underlying64 Try.underlying5 Try.underlying9
      have HE := Lib.hid (smallAt_end s)
      obtain rfl : k = s.size := by omega
      go_wp2
      go_ret
      exact ⟨ret_str (by rw [HE.out]), hb⟩
end Go.Proofs.Ytpibjpppjjkcaaa
