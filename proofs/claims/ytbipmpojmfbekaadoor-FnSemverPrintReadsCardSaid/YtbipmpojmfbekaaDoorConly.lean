/- semver.containsOnly of an ASCII text. -/
import Derived.Test.YtbipmpojmfbekaaDoorRuneSv
import Derived.Test.YtbipmpojmfbekaaDoorSplitN
namespace Go.Proofs.YtbipmpojmfbekaaDoor
open Go.RowKit
set_option linter.unusedVariables false
set_option linter.unusedSimpArgs false

def inB (p : ByteArray) (c : Int) : Bool := decide (0 ≤ fstInt p.data.toList c)
/-- Is each byte of s one of p's? -/
def onlyB (s p : ByteArray) : Bool := s.data.toList.all (fun b => inB p b.toNat)
def upOnly (s p : ByteArray) (k : Nat) : Prop := ∀ j (h : j < s.size), j < k → inB p (s[j]).toNat = true
theorem only_end (s p : ByteArray) (h : upOnly s p s.size) : onlyB s p = true := by
  unfold onlyB
  rw [List.all_eq_true]
  intro b hb
  obtain ⟨j, hj, rfl⟩ := List.mem_iff_getElem.1 hb
  have hj2 : j < s.size := by rw [← str_len]; exact hj
  exact h j hj2 hj2
theorem only_hit (s p : ByteArray) (k : Nat) (hk : k < s.size) (h : inB p (s[k]).toNat = false) : onlyB s p = false := by
  unfold onlyB
  rw [List.all_eq_false]
  exact ⟨s.data.toList[k]'(by rw [str_len]; exact hk), List.getElem_mem _, by rw [← str_get s k hk, h]; decide⟩

set_option maxRecDepth 100000 in
set_option maxHeartbeats 2000000 in
theorem clos_any (p : ByteArray) (hp : Hid (plainB p.data.toList = true)) (g : Nat) (c : Int) (h0 : 0 ≤ c) (h1 : c < 128) (w : World) (hc : w.cell? ⟨g, 0, none⟩ = some (.string p)) :
    Calls Tryd.prog 40 #[.int .i32 c, .pointer (some ⟨g, 0, none⟩)] w fun e w' => e = .returned (.bool (!inB p c)) ∧ Below w.heap.size w w' := by
  go_enter Tryd.func40, Tryd.ntmps40
  go_wp2_with fail
  refine (containsRune_any p c h0 h1 hp _).mono ?_
  rintro e w' ⟨rfl, hb⟩
  go_wp2_with fail
  go_ret
  exact ⟨rfl, hb⟩

set_option maxRecDepth 100000 in
set_option maxHeartbeats 2000000 in
theorem indexFunc_any (s p : ByteArray) (hs : Hid (plainB s.data.toList = true)) (hp : Hid (plainB p.data.toList = true)) (g : Nat) (w : World) (hg : g < w.heap.size) (hc : w.cell? ⟨g, 0, none⟩ = some (.string p)) :
    Calls Tryd.prog 47 #[.string s, .func (Fn.func 40) #[] #[.pointer (some ⟨g, 0, none⟩)], .bool true] w fun e w' => (∃ r : Int, e = .returned (.int .i64 r) ∧ (r == -1) = onlyB s p) ∧ Below w.heap.size w w' := by
  obtain ⟨hk0, hb0⟩ := iter_start w s
  go_enter Tryd.func47, Tryd.ntmps47
  go_wp2_with fail
  go_loopw [] (fun wr => ∃ pos : Nat, pos ≤ s.size ∧ wr.heap[w.heap.size]? = some (.stringIter s pos) ∧ Hid (upOnly s p pos) ∧ Below w.heap.size w wr)
    (fun wr => s.size - wr.iterPos w.heap.size)
  case atStart => exact ⟨0, Nat.zero_le _, hk0, fun j _ h => absurd h (Nat.not_lt_zero _), hb0⟩
  case round =>
    obtain ⟨pos, hps, hk, hf, hb⟩ := hrel
    clear hk0 hb0
    have hmu : wr.iterPos w.heap.size = pos := iterPos_of hk
    by_cases hlt : pos < s.size
    · have hnext : ∀ ty, (Instr.next (.pointer (some ⟨w.heap.size, 0, none⟩)) true ty).run Tryd.prog wr = _ := fun ty => Lib.run_next_ascii_at wr w.heap.size s pos ty hk hlt (plainB_at s hs pos hlt)
      have hk1 := Lib.iterAt_heap wr w.heap.size s pos (pos + 1) hk
      have hb1 : Below w.heap.size w (wr.iterAt w.heap.size s (pos + 1)) := Lib.below_iterAt hb (Nat.le_refl _) s (pos + 1)
      generalize wr.iterAt w.heap.size s (pos + 1) = W1 at hnext hk1 hb1
      have HM := Lib.hid hmu
      have HK := Lib.hid hk
      have HK1 := Lib.hid hk1
      clear hmu hk hk1
      have hc1 : W1.cell? ⟨g, 0, none⟩ = some (.string p) := (hb1.cell (p := ⟨g, 0, none⟩) hg).trans hc
      have h128 := plainB_at s hs pos hlt
      go_wp2_with fail
      refine (clos_any p hp g _ (by omega) (by omega) W1 hc1).mono ?_
      rintro e w2 ⟨rfl, hb2⟩
      have hk3 : Hid (w2.heap[w.heap.size]? = some (.stringIter s (pos + 1))) := (hb2.block _ (by
        rcases Nat.lt_or_ge w.heap.size W1.heap.size with h | h
        · exact h
        · have e2 : W1.heap[w.heap.size]? = none := Array.getElem?_eq_none h
          have := HK1.out
          rw [e2] at this; cases this)).trans HK1.out
      have hb3 : Below w.heap.size w w2 := hb1.trans (hb2.mono hb1.size)
      clear hnext hc1 hb1 hb2
      cases hi : inB p (s[pos]).toNat with
      | true =>
        have hup : Hid (upOnly s p (pos + 1)) := fun j hj h => by
          by_cases e : j = pos
          · subst e; exact hi
          · exact hf.out j hj (by omega)
        go_wp2_with fail
        go_roundw
        case rel => exact ⟨pos + 1, by omega, hk3.out, hup, hb3⟩
        case measure => rw [HM.out, iterPos_of hk3.out]; omega
      | false =>
        have hO := Lib.hid (only_hit s p pos hlt hi)
        go_wp2_with fail
        refine bodyPost_ret (v := .int .i64 (pos : Int)) (by simp [results, Tryd.results47, go_sem]) rfl ⟨⟨pos, rfl, ?_⟩, hb3⟩
        rw [hO.out, beq_eq_false_iff_ne]; omega
    · have hnext : ∀ ty, (Instr.next (.pointer (some ⟨w.heap.size, 0, none⟩)) true ty).run Tryd.prog wr = _ := fun ty => Lib.run_next_end_at wr w.heap.size s pos ty hk hlt
      have hO := Lib.hid (only_end s p (fun j hj h => hf.out j hj (by omega)))
      clear hmu hk
      go_wp2_with fail
      refine bodyPost_ret (v := .int .i64 (-1)) (by simp [results, Tryd.results47, go_sem]) rfl ⟨⟨-1, rfl, ?_⟩, hb⟩
      rw [hO.out]; rfl

theorem indexF_any (s p : ByteArray) (hs : Hid (plainB s.data.toList = true)) (hp : Hid (plainB p.data.toList = true)) (g : Nat) (w : World) (hg : g < w.heap.size) (hc : w.cell? ⟨g, 0, none⟩ = some (.string p)) :
    Calls Tryd.prog 39 #[.string s, .func (Fn.func 40) #[] #[.pointer (some ⟨g, 0, none⟩)]] w fun e w' => (∃ r : Int, e = .returned (.int .i64 r) ∧ (r == -1) = onlyB s p) ∧ Below w.heap.size w w' := by
  go_enter Tryd.func39, Tryd.ntmps39
  go_wp2_with fail
  refine (indexFunc_any s p hs hp g _ hg hc).mono ?_
  rintro e w' ⟨⟨r, rfl, hr⟩, hb⟩
  go_wp2_with fail
  go_ret
  exact ⟨⟨r, rfl, hr⟩, hb⟩

theorem conly_any (s p : ByteArray) (hs : Hid (plainB s.data.toList = true)) (hp : Hid (plainB p.data.toList = true)) (w : World) :
    Calls Tryd.prog 25 #[.string s, .string p] w fun e w' => e = .returned (.bool (onlyB s p)) ∧ Below w.heap.size w w' := by
  go_enter Tryd.func25, Tryd.ntmps25
  go_wp2_with fail
  have hb0 : Below w.heap.size w (w.alloc (.cells #[.string p] 9)) := (Below.refl _ _).alloc (Nat.le_refl _) _
  have hc0 : (w.alloc (.cells #[.string p] 9)).cell? ⟨w.heap.size, 0, none⟩ = some (.string p) := cell_of_row _ _ 0 _ _ (0, 0) (heap_alloc_new w _)
  refine (indexF_any s p hs hp w.heap.size _ (by simp) hc0).mono ?_
  rintro e w' ⟨⟨r, rfl, hr⟩, hb⟩
  have hb1 : Below w.heap.size w w' := hb0.trans (hb.mono hb0.size)
  go_wp2_with fail
  refine bodyPost_ret (v := .bool (onlyB s p)) (by simp [results, Tryd.results25, go_sem, ← hr]) rfl ⟨rfl, hb1⟩
end Go.Proofs.YtbipmpojmfbekaaDoor
