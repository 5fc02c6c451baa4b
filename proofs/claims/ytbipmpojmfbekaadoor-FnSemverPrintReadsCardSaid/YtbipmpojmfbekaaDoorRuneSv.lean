/- reference.zzIndexRune, zzContainsRune, zzIndexAny, zzContainsAny over texts of bytes below 128. -/
import Derived.Test.YtbipmpojmfbekaaDoorWk
import Derived.Lib.OthersKept
import Derived.WalkSmall
namespace Go.Proofs.YtbipmpojmfbekaaDoor
open Go.RowKit

theorem iter_start (w : World) (s : ByteArray) : (w.iter s 0).heap[w.heap.size]? = some (.stringIter s 0) ∧ Below w.heap.size w (w.iter s 0) :=
  ⟨World.iter_heap w s 0, (Below.refl _ w).alloc (Nat.le_refl _) _⟩

set_option maxRecDepth 100000 in
set_option maxHeartbeats 1000000 in
theorem indexRune_any (s : ByteArray) (c : Int) (h0 : 0 ≤ c) (h1 : c < 128) (hp : Hid (plainB s.data.toList = true)) (w : World) :
    Calls Tryd.prog 48 #[.string s, .int .i32 c] w fun e w' => e = .returned (.int .i64 (fstInt s.data.toList c)) ∧ Below w.heap.size w w' := by
  obtain ⟨hk0, hb0⟩ := iter_start w s
  go_enter Tryd.func48, Tryd.ntmps48
  go_wp2
  go_loopw [] (fun wr => ∃ pos : Nat, pos ≤ s.size ∧ wr.heap[w.heap.size]? = some (.stringIter s pos) ∧ Hid (pos ≤ fstIx s.data.toList c) ∧ Below w.heap.size w wr)
    (fun wr => s.size - wr.iterPos w.heap.size)
  case atStart => exact ⟨0, Nat.zero_le _, hk0, Nat.zero_le _, hb0⟩
  case round =>
    obtain ⟨pos, hps, hk, hf, hb⟩ := hrel
    clear hk0 hb0
    have hmu : wr.iterPos w.heap.size = pos := iterPos_of hk
    by_cases hlt : pos < s.size
    · have hnext : ∀ ty, (Instr.next (.pointer (some ⟨w.heap.size, 0, none⟩)) true ty).run Tryd.prog wr = _ := fun ty => Lib.run_next_ascii_at wr w.heap.size s pos ty hk hlt (plainB_at s hp pos hlt)
      have hk1 := Lib.iterAt_heap wr w.heap.size s pos (pos + 1) hk
      have hb1 : Below w.heap.size w (wr.iterAt w.heap.size s (pos + 1)) := Lib.below_iterAt hb (Nat.le_refl _) s (pos + 1)
      generalize wr.iterAt w.heap.size s (pos + 1) = W1 at hnext hk1 hb1
      have HM := Lib.hid hmu
      have HK := Lib.hid hk
      have HK1 := Lib.hid hk1
      clear hmu hk hk1
      go_wp2
      · go_ret
        exact ⟨ret_i64 (hitS s c pos hlt hf ‹_›), hb1⟩
      · go_roundw
        case rel => exact ⟨pos + 1, by omega, HK1.out, missS s c pos hlt hf ‹_›, hb1⟩
        case measure => rw [HM.out, iterPos_of HK1.out]; omega
    · have hnext : ∀ ty, (Instr.next (.pointer (some ⟨w.heap.size, 0, none⟩)) true ty).run Tryd.prog wr = _ := fun ty => Lib.run_next_end_at wr w.heap.size s pos ty hk hlt
      clear hmu hk
      go_wp2
      go_ret
      exact ⟨ret_i64 (noneS s c pos hlt hf), hb⟩

set_option maxHeartbeats 400000 in
theorem containsRune_any (s : ByteArray) (c : Int) (h0 : 0 ≤ c) (h1 : c < 128) (hp : Hid (plainB s.data.toList = true)) (w : World) :
    Calls Tryd.prog 41 #[.string s, .int .i32 c] w fun e w' => e = .returned (.bool (decide (0 ≤ fstInt s.data.toList c))) ∧ Below w.heap.size w w' := by
  go_enter Tryd.func41, Tryd.ntmps41
  go_wp2_with fail
  refine (indexRune_any s c h0 h1 hp _).mono ?_
  rintro e w' ⟨rfl, hb⟩
  go_wp2_with fail
  go_ret
  exact ⟨rfl, hb⟩


end Go.Proofs.YtbipmpojmfbekaaDoor
