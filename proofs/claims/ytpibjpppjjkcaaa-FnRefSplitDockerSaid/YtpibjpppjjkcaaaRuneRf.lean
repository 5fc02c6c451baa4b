/- reference.zzIndexRune, zzContainsRune, zzIndexAny, zzContainsAny over texts of bytes below 128. -/
import Derived.Test.YtpibjpppjjkcaaaWk
import Derived.Lib.OthersKept
import Derived.WalkSmall
namespace Go.Proofs.Ytpibjpppjjkcaaa
open Go.RowKit

theorem iter_start (w : World) (s : ByteArray) : (w.iter s 0).heap[w.heap.size]? = some (.stringIter s 0) ∧ Below w.heap.size w (w.iter s 0) :=
  ⟨World.iter_heap w s 0, (Below.refl _ w).alloc (Nat.le_refl _) _⟩

set_option maxRecDepth 100000 in
set_option maxHeartbeats 1000000 in
theorem indexRune_any (s : ByteArray) (c : Int) (h0 : 0 ≤ c) (h1 : c < 128) (hp : Hid (plainB s.data.toList = true)) (w : World) :
    Calls Try.prog 57 #[.string s, .int .i32 c] w fun e w' => e = .returned (.int .i64 (fstInt s.data.toList c)) ∧ Below w.heap.size w w' := by
  obtain ⟨hk0, hb0⟩ := iter_start w s
  go_enter Try.func57, Try.ntmps57
  go_wp2
  go_loopw [] (fun wr => ∃ pos : Nat, pos ≤ s.size ∧ wr.heap[w.heap.size]? = some (.stringIter s pos) ∧ Hid (pos ≤ fstIx s.data.toList c) ∧ Below w.heap.size w wr)
    (fun wr => s.size - wr.iterPos w.heap.size)
  case atStart => exact ⟨0, Nat.zero_le _, hk0, Nat.zero_le _, hb0⟩
  case round =>
    obtain ⟨pos, hps, hk, hf, hb⟩ := hrel
    clear hk0 hb0
    have hmu : wr.iterPos w.heap.size = pos := iterPos_of hk
    by_cases hlt : pos < s.size
    · have hnext : ∀ ty, (Instr.next (.pointer (some ⟨w.heap.size, 0, none⟩)) true ty).run Try.prog wr = _ := fun ty => Lib.run_next_ascii_at wr w.heap.size s pos ty hk hlt (plainB_at s hp pos hlt)
      have hk1 := Lib.iterAt_heap wr w.heap.size s pos (pos + 1) hk
      have hb1 : Below w.heap.size w (wr.iterAt w.heap.size s (pos + 1)) := Lib.below_iterAt hb (Nat.le_refl _) s (pos + 1)
      generalize wr.iterAt w.heap.size s (pos + 1) = W1 at hnext hk1 hb1
      have HM := Lib.hid hmu
      have HK := Lib.hid hk
      have HK1 := Lib.hid hk1
      clear hmu hk hk1
      go_wp2
      · go_ret
        exact ⟨ret_i64 (hitS s c pos hlt hf ‹_›), hb1⟩
      · go_roundw
        case rel => exact ⟨pos + 1, by omega, HK1.out, missS s c pos hlt hf ‹_›, hb1⟩
        case measure => rw [HM.out, iterPos_of HK1.out]; omega
    · have hnext : ∀ ty, (Instr.next (.pointer (some ⟨w.heap.size, 0, none⟩)) true ty).run Try.prog wr = _ := fun ty => Lib.run_next_end_at wr w.heap.size s pos ty hk hlt
      clear hmu hk
      go_wp2
      go_ret
      exact ⟨ret_i64 (noneS s c pos hlt hf), hb⟩

set_option maxHeartbeats 400000 in
theorem containsRune_any (s : ByteArray) (c : Int) (h0 : 0 ≤ c) (h1 : c < 128) (hp : Hid (plainB s.data.toList = true)) (w : World) :
    Calls Try.prog 45 #[.string s, .int .i32 c] w fun e w' => e = .returned (.bool (decide (0 ≤ fstInt s.data.toList c))) ∧ Below w.heap.size w w' := by
  go_enter Try.func45, Try.ntmps45
  go_wp2_with fail
  refine (indexRune_any s c h0 h1 hp _).mono ?_
  rintro e w' ⟨rfl, hb⟩
  go_wp2_with fail
  go_ret
  exact ⟨rfl, hb⟩

/-- Has the text a byte a or a byte b. -/
def hasTwo (l : List UInt8) (a b : Int) : Bool := decide (0 ≤ fstInt l a) || decide (0 ≤ fstInt l b)

theorem hasTwo_hit (s : ByteArray) (k : Nat) (hk : k < s.size) (a b : Int) (h : (((s[k]).toNat : Int) == a) = true ∨ (((s[k]).toNat : Int) == b) = true) : true = hasTwo s.data.toList a b := by
  unfold hasTwo
  rcases h with h | h
  · rw [fst_some s k hk a h]; simp
  · rw [fst_some s k hk b h]; simp

theorem hasTwo_none (s : ByteArray) (k : Nat) (hk : ¬ k < s.size) (a b : Int) (ha : k ≤ fstIx s.data.toList a) (hb : k ≤ fstIx s.data.toList b) : false = hasTwo s.data.toList a b := by
  unfold hasTwo
  rw [← noneS s a k hk ha, ← noneS s b k hk hb]; rfl

def AnyPost (s : ByteArray) (w : World) (e : Ending) (w' : World) : Prop := ∃ r : Int, e = .returned (.int .i64 r) ∧ decide (0 ≤ r) = hasTwo s.data.toList 46 58 ∧ Below w.heap.size w w'

theorem anyPost_at (s : ByteArray) (w w' : World) (pos : Nat) (h : true = hasTwo s.data.toList 46 58) (hb : Below w.heap.size w w') : AnyPost s w (.returned (.int .i64 (pos : Int))) w' :=
  ⟨pos, rfl, by rw [← h]; simp, hb⟩
theorem anyPost_none (s : ByteArray) (w w' : World) (h : false = hasTwo s.data.toList 46 58) (hb : Below w.heap.size w w') : AnyPost s w (.returned (.int .i64 (-1))) w' :=
  ⟨-1, rfl, by rw [← h]; simp, hb⟩

def dots : ByteArray := ⟨#[46, 58]⟩

set_option maxRecDepth 100000 in
set_option maxHeartbeats 1000000 in
theorem indexAny_any (s : ByteArray) (hp : Hid (plainB s.data.toList = true)) (w : World) :
    Calls Try.prog 56 #[.string s, .string dots] w (AnyPost s w) := by
  obtain ⟨hk0, hb0⟩ := iter_start w s
  go_enter Try.func56, Try.ntmps56
  go_wp2
  go_loopw [] (fun wr => ∃ pos : Nat, pos ≤ s.size ∧ wr.heap[w.heap.size]? = some (.stringIter s pos) ∧ Hid (pos ≤ fstIx s.data.toList 46) ∧ Hid (pos ≤ fstIx s.data.toList 58) ∧ Below w.heap.size w wr)
    (fun wr => s.size - wr.iterPos w.heap.size)
  case atStart => exact ⟨0, Nat.zero_le _, hk0, Nat.zero_le _, Nat.zero_le _, hb0⟩
  case round =>
    obtain ⟨pos, hps, hk, hf1, hf2, hb⟩ := hrel
    clear hk0 hb0
    obtain ⟨wo, rfl⟩ : ∃ wo : World, wo = wr := ⟨_, rfl⟩
    have hmu : wo.iterPos w.heap.size = pos := iterPos_of hk
    by_cases hlt : pos < s.size
    · have hnext : ∀ ty, (Instr.next (.pointer (some ⟨w.heap.size, 0, none⟩)) true ty).run Try.prog wo = _ := fun ty => Lib.run_next_ascii_at wo w.heap.size s pos ty hk hlt (plainB_at s hp pos hlt)
      have hk1 := Lib.iterAt_heap wo w.heap.size s pos (pos + 1) hk
      have hb1 : Below w.heap.size w (wo.iterAt w.heap.size s (pos + 1)) := Lib.below_iterAt hb (Nat.le_refl _) s (pos + 1)
      generalize wo.iterAt w.heap.size s (pos + 1) = W1 at hnext hk1 hb1
      have HM := Lib.hid hmu
      have HK := Lib.hid hk
      have HK1 := Lib.hid hk1
      clear hmu hk hk1
      go_wp2
      have hs1 : w.heap.size < W1.heap.size := (Array.getElem?_eq_some_iff.1 HK1.out).1
      have hi0 : (W1.iter dots 0).heap[W1.heap.size]? = some (.stringIter dots 0) := World.iter_heap W1 dots 0
      have hi1 : (W1.iter dots 0).heap[w.heap.size]? = some (.stringIter s (pos + 1)) := (Below.heap_alloc W1 _ _ hs1).trans HK1.out
      have hi2 : Below w.heap.size w (W1.iter dots 0) := hb1.alloc (by omega) _
      have HI0 := Lib.hid hi0
      have HI1 := Lib.hid hi1
      clear hi0 hi1
      go_loopw [] (fun wq => ∃ q : Nat, q ≤ 2 ∧ Hid (wq.heap[W1.heap.size]? = some (.stringIter dots q)) ∧ Hid (wq.heap[w.heap.size]? = some (.stringIter s (pos + 1))) ∧ Hid (1 ≤ q → (((s[pos]).toNat : Int) == 46) = false) ∧ Hid (2 ≤ q → (((s[pos]).toNat : Int) == 58) = false) ∧ Below w.heap.size w wq)
        (fun wq => 2 - wq.iterPos W1.heap.size)
      case atStart => exact ⟨0, by omega, HI0, HI1, fun h => by omega, fun h => by omega, hi2⟩
      case round =>
        obtain ⟨q, hq, hiq, his, hn1, hn2, hbq⟩ := hrel
        clear HI0 HI1 hi2 hb1
        have HMq := Lib.hid (iterPos_of (w := wr) hiq)
        rcases (by omega : q = 0 ∨ q = 1 ∨ q = 2) with rfl | rfl | rfl
        · have hnq : ∀ ty, (Instr.next (.pointer (some ⟨W1.heap.size, 0, none⟩)) true ty).run Try.prog wr = .ok (.tuple #[.bool true, .int .i64 (0 : Nat), .int .i32 46]) _ := fun ty => Lib.run_next_ascii_at wr W1.heap.size dots 0 ty hiq (by decide) (by decide)
          have hkq := Lib.hid (Lib.iterAt_heap wr W1.heap.size dots 0 1 hiq)
          have hko := Lib.hid ((Lib.iterAt_other wr W1.heap.size w.heap.size dots 1 (by omega)).trans his)
          have hbn : Below w.heap.size w (wr.iterAt W1.heap.size dots 1) := Lib.below_iterAt hbq (by omega) dots 1
          have ez : 0 + 1 = 1 := rfl
          simp only [Nat.zero_add] at hnq
          clear ez
          generalize wr.iterAt W1.heap.size dots 1 = W2 at hnq hkq hko hbn
          go_wp2
          · go_ret
            exact anyPost_at s w _ pos (hasTwo_hit s pos hlt 46 58 (.inl ‹_›)) hbn
          · go_roundw
            case rel => exact ⟨1, by omega, hkq, hko, fun _ => ‹_›, fun h => by omega, hbn⟩
            case measure => rw [HMq.out, iterPos_of hkq.out]; omega
        · have hnq : ∀ ty, (Instr.next (.pointer (some ⟨W1.heap.size, 0, none⟩)) true ty).run Try.prog wr = .ok (.tuple #[.bool true, .int .i64 (1 : Nat), .int .i32 58]) _ := fun ty => Lib.run_next_ascii_at wr W1.heap.size dots 1 ty hiq (by decide) (by decide)
          have hkq := Lib.hid (Lib.iterAt_heap wr W1.heap.size dots 1 2 hiq)
          have hko := Lib.hid ((Lib.iterAt_other wr W1.heap.size w.heap.size dots 2 (by omega)).trans his)
          have hbn : Below w.heap.size w (wr.iterAt W1.heap.size dots 2) := Lib.below_iterAt hbq (by omega) dots 2
          simp only [Nat.reduceAdd] at hnq
          generalize wr.iterAt W1.heap.size dots 2 = W2 at hnq hkq hko hbn
          go_wp2
          · go_ret
            exact anyPost_at s w _ pos (hasTwo_hit s pos hlt 46 58 (.inr ‹_›)) hbn
          · go_roundw
            case rel => exact ⟨2, by omega, hkq, hko, fun _ => hn1 (by omega), fun _ => ‹_›, hbn⟩
            case measure => rw [HMq.out, iterPos_of hkq.out]; omega
        · have hnq : ∀ ty, (Instr.next (.pointer (some ⟨W1.heap.size, 0, none⟩)) true ty).run Try.prog wr = _ := fun ty => Lib.run_next_end_at wr W1.heap.size dots 2 ty hiq (by decide)
          go_wp2
          go_roundw
          case rel => exact ⟨pos + 1, by omega, his.out, missS s 46 pos hlt hf1 (hn1 (by omega)), missS s 58 pos hlt hf2 (hn2 (by omega)), hbq⟩
          case measure => rw [HM.out, iterPos_of his.out]; omega
    · have hnext : ∀ ty, (Instr.next (.pointer (some ⟨w.heap.size, 0, none⟩)) true ty).run Try.prog wo = _ := fun ty => Lib.run_next_end_at wo w.heap.size s pos ty hk hlt
      clear hmu hk
      go_wp2
      go_ret
      exact anyPost_none s w _ (hasTwo_none s pos hlt 46 58 hf1 hf2) hb

set_option maxHeartbeats 400000 in
theorem containsAny_any (s : ByteArray) (hp : Hid (plainB s.data.toList = true)) (w : World) :
    Calls Try.prog 43 #[.string s, .string ⟨#[46, 58]⟩] w fun e w' => e = .returned (.bool (hasTwo s.data.toList 46 58)) ∧ Below w.heap.size w w' := by
  go_enter Try.func43, Try.ntmps43
  go_wp2_with fail
  refine (indexAny_any s hp _).mono ?_
  rintro e w' ⟨r, rfl, hr, hb⟩
  have HR := Lib.hid hr
  clear hr
  go_wp2_with fail
  go_ret
  exact ⟨ret_bool HR.out, hb⟩
end Go.Proofs.Ytpibjpppjjkcaaa
