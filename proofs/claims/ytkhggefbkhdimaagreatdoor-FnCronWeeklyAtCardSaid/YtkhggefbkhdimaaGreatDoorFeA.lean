/- cron.zzSpace, zzFields of a text of ASCII. -/
import Derived.Test.YtkhggefbkhdimaaGreatDoorPWd
import Derived.Test.YtkhggefbkhdimaaGreatDoorSplitCr
import Derived.Lib.OthersKept
import Derived.Deep.Onto
namespace Go.Proofs.YtkhggefbkhdimaaGreatDoor
open Go.RowKit
set_option linter.unusedVariables false
set_option linter.unusedSimpArgs false

def blankN (x : Nat) : Bool := decide (x = 32) || (decide (9 ≤ x) && decide (x ≤ 13))
theorem blank_N (c : UInt8) : blankB c = blankN c.toNat := rfl
set_option maxHeartbeats 2000000 in
theorem space_any (x : Nat) (hx : x < 128) (w : World) : Calls Tryz.prog 98 #[.int .i32 x] w fun e w' => e = .returned (.bool (blankN x)) ∧ w = w' := by
  by_cases h : x = 9 ∨ x = 10 ∨ x = 11 ∨ x = 12 ∨ x = 13 ∨ x = 32
  · rcases h with rfl | rfl | rfl | rfl | rfl | rfl
    all_goals
      go_enter Tryz.func98, Tryz.ntmps98
      go_wp2_with fail
      go_ret
      exact ⟨rfl, rfl⟩
  · have hb : blankN x = false := by unfold blankN; simp; omega
    rw [hb]
    have e9 : ((x : Int) == 9) = false := by simp only [beq_eq_false_iff_ne]; omega
    have e10 : ((x : Int) == 10) = false := by simp only [beq_eq_false_iff_ne]; omega
    have e11 : ((x : Int) == 11) = false := by simp only [beq_eq_false_iff_ne]; omega
    have e12 : ((x : Int) == 12) = false := by simp only [beq_eq_false_iff_ne]; omega
    have e13 : ((x : Int) == 13) = false := by simp only [beq_eq_false_iff_ne]; omega
    have e32 : ((x : Int) == 32) = false := by simp only [beq_eq_false_iff_ne]; omega
    have e133 : ((x : Int) == 133) = false := by simp only [beq_eq_false_iff_ne]; omega
    have e160 : ((x : Int) == 160) = false := by simp only [beq_eq_false_iff_ne]; omega
    have e5760 : ((x : Int) == 5760) = false := by simp only [beq_eq_false_iff_ne]; omega
    have e8232 : ((x : Int) == 8232) = false := by simp only [beq_eq_false_iff_ne]; omega
    have e8233 : ((x : Int) == 8233) = false := by simp only [beq_eq_false_iff_ne]; omega
    have e8239 : ((x : Int) == 8239) = false := by simp only [beq_eq_false_iff_ne]; omega
    have e8287 : ((x : Int) == 8287) = false := by simp only [beq_eq_false_iff_ne]; omega
    have e12288 : ((x : Int) == 12288) = false := by simp only [beq_eq_false_iff_ne]; omega
    have l1 : decide ((8192 : Int) ≤ (x : Int)) = false := decide_eq_false (by omega)
    clear h hb
    go_enter Tryz.func98, Tryz.ntmps98
    go_wp2_with fail
    go_ret
    exact ⟨rfl, rfl⟩
def fromV : Option Nat → Int
  | none => -1
  | some f => f
def curOf (s : ByteArray) (fo : Option Nat) (pos : Nat) : List UInt8 := match fo with
  | none => []
  | some f => partL s f pos
def fromOk (fo : Option Nat) (pos : Nat) : Prop := ∀ f, fo = some f → f < pos
theorem strsV_mk (P : List (List UInt8)) (p : List UInt8) : strsV ((P ++ [p]).map mkB) = strsV (P.map mkB) ++ [.string (mkB p)] := by simp [strsV]

set_option maxRecDepth 100000 in
set_option maxHeartbeats 4000000 in
theorem zzFields_any (s : ByteArray) (hs : s.size ≤ 2147483654) (hp : Hid (plainB s.data.toList = true)) (w : World) :
    Calls Tryz.prog 67 #[.string s] w (StrsPost (wordsB s) w) := by
  obtain ⟨i0, hi, hz0, hz1, hz2⟩ := info_parts Tryz.infoStr
  have hk0 : (w.iter s 0).heap[w.heap.size]? = some (.stringIter s 0) := World.iter_heap w s 0
  have hb0 : Below w.heap.size w (w.iter s 0) := (Below.refl _ w).alloc (Nat.le_refl _) _
  go_enter Tryz.func67, Tryz.ntmps67
  go_wp2
  go_loopw [3, 4] (fun v fr wr => ∃ (pos : Nat) (fo : Option Nat) (P : List (List UInt8)), pos ≤ s.size ∧ fr = .int .i64 (fromV fo) ∧ fromOk fo pos ∧ Hid (wr.heap[w.heap.size]? = some (.stringIter s pos)) ∧ wr.ownsRow (w.heap.size + 1) 9 1 v P.length (strsV (P.map mkB)) ∧ P.length ≤ pos ∧ Hid (P ++ wordsA (curOf s fo pos) (s.data.toList.drop pos) = wordsL s.data.toList) ∧ Below w.heap.size w wr ∧ w.heap.size < wr.heap.size)
    (fun _ _ wr => s.size - wr.iterPos w.heap.size)
  case atStart => exact ⟨0, none, [], Nat.zero_le _, rfl, (fun f h => by cases h), hk0, ⟨by simp [strsV], .inl ⟨rfl, rfl⟩⟩, Nat.le_refl _, Lib.hid (by rw [List.drop_zero]; rfl), hb0, by simp [World.iter]⟩
  case round =>
    obtain ⟨pos, fo, P, hps, rfl, hfo, hk, hown, hPl, hW, hb, hsz⟩ := hrel
    clear hk0 hb0
    have HM := Lib.hid (iterPos_of (w := wr) hk)
    by_cases hlt : pos < s.size
    · have hnext : ∀ ty, (Instr.next (.pointer (some ⟨w.heap.size, 0, none⟩)) true ty).run Tryz.prog wr = _ := fun ty => Lib.run_next_ascii_at wr w.heap.size s pos ty hk hlt (plainB_at s hp pos hlt)
      have hk1 := Lib.hid (Lib.iterAt_heap wr w.heap.size s pos (pos + 1) hk)
      have hb1 : Below w.heap.size w (wr.iterAt w.heap.size s (pos + 1)) := Lib.below_iterAt hb (Nat.le_refl _) s (pos + 1)
      have hown1 := ownsRow_iterAt hown (show w.heap.size < w.heap.size + 1 by omega) s (pos + 1)
      have hsz1 : w.heap.size < (wr.iterAt w.heap.size s (pos + 1)).heap.size := by rw [Lib.iterAt_size]; exact hsz
      generalize wr.iterAt w.heap.size s (pos + 1) = W1 at hnext hk1 hb1 hown1 hsz1
      clear hown hb hk hsz
      have hD := drop_at s pos hlt
      have h128 : (s[pos]).toNat < 128 := plainB_at s hp pos hlt
      have hPS : ∀ f, f < pos → partL s f (pos + 1) = partL s f pos ++ [s[pos]] := fun f hf => part_snoc s f pos (by omega) hlt
      have hP0 : partL s pos (pos + 1) = [s[pos]] := by
        rw [part_snoc s pos pos (Nat.le_refl _) hlt]
        unfold partL
        simp
      have hPN : ∀ f, f < pos → partL s f pos ≠ [] := fun f hf => part_ne s f pos hf hps
      have hmk : ∀ f, s.extract f pos = mkB (partL s f pos) := fun f => part_mk s f pos
      generalize s[pos] = c at hnext hD h128 hPS hP0
      have hbl := blank_N c
      cases hbc : blankB c with
      | true =>
        have HSP : Hid (∀ W : World, Calls Tryz.prog 98 #[.int .i32 (c.toNat : Int)] W fun e w' => e = .returned (.bool true) ∧ W = w') := Lib.hid (fun W => by have := space_any c.toNat h128 W; rw [← hbl, hbc] at this; exact this)
        cases fo with
        | none =>
          have HW2 : Hid (P ++ wordsA [] (s.data.toList.drop (pos + 1)) = wordsL s.data.toList) := Lib.hid (by rw [← hW.out, hD]; show _ = P ++ wordsA [] (c :: _); rw [words_blank_e c _ hbc])
          dsimp only [fromV]
          clear hD hbl hbc hPS hP0 hPN hmk
          go_wp2_with (first | (go_at_call 98; refine (HSP.out _).mono ?_; rintro e w' ⟨rfl, rfl⟩))
          go_roundw
          case rel => exact ⟨pos + 1, none, P, by omega, rfl, (fun f h => by cases h), hk1, hown1, by omega, HW2, hb1, hsz1⟩
          case measure => rw [HM.out, iterPos_of hk1.out]; omega
        | some f =>
          have hf : f < pos := hfo f rfl
          have HW2 : Hid ((P ++ [partL s f pos]) ++ wordsA [] (s.data.toList.drop (pos + 1)) = wordsL s.data.toList) := Lib.hid (by rw [← hW.out, hD]; show _ = P ++ wordsA (partL s f pos) (c :: _); rw [words_blank _ c _ (hPN f hf) hbc]; simp)
          have HMK := Lib.hid (hmk f)
          dsimp only [fromV]
          clear hD hbl hbc hPS hP0 hPN hmk
          go_wp2_with (first | (go_at_call 98; refine (HSP.out _).mono ?_; rintro e w' ⟨rfl, rfl⟩) | (at_builtin; refine stop_here ?_))
          unfold Stop
          refine wpList_append_own _ rfl _ _ 39 rfl (w.heap.size + 1) 9 i0 (.string ByteArray.empty) 1 16 Tryz.underlying39 hi hz0 hz1 hz2 rfl (by decide) _ _ _ rfl (hown1.alloc _) ⟨W1.heap.size, 0, none⟩ 1 1 [_] rfl rfl (cell_one_new _ _ _) ?_ ?_ ?_ ?_ ?_
          · intro u hu; rw [List.mem_singleton] at hu; subst hu; rfl
          · unfold maxLen; omega
          · omega
          · simp; omega
          intro v' w2 hown2 hgrow2 _
          have k2 := Lib.hid (((Below.heap_alloc W1 _ _ hsz1).trans hk1.out) |> fun h => (hgrow2.block _ (by simp; omega) (fun h9 => by have := hown1.lt w.heap.size h9.symm; omega)).trans h)
          have b2 : Below w.heap.size w w2 := Below.grown (hb1.alloc (by omega) _) hgrow2 (by have := hb1.size; simp; omega) (fun k hk => by have := (hown1.lt k hk).1; omega)
          have z2 : w.heap.size < w2.heap.size := by have := hgrow2.size; simp at this; omega
          have HO : Hid (w2.ownsRow (w.heap.size + 1) 9 1 v' (P ++ [partL s f pos]).length (strsV ((P ++ [partL s f pos]).map mkB))) := Lib.hid (by
            rw [strsV_mk, ← HMK.out]
            have h9 := hown2
            rw [show P.length + 1 = (P ++ [partL s f pos]).length from by simp] at h9
            exact h9)
          clear hgrow2 hown2
          go_wp2_with fail
          go_roundw
          case rel => exact ⟨pos + 1, none, P ++ [partL s f pos], by omega, rfl, (fun f h => by cases h), k2, HO.out, by simp; omega, HW2, b2, z2⟩
          case measure => rw [HM.out, iterPos_of k2.out]; omega
      | false =>
        have HSP : Hid (∀ W : World, Calls Tryz.prog 98 #[.int .i32 (c.toNat : Int)] W fun e w' => e = .returned (.bool false) ∧ W = w') := Lib.hid (fun W => by have := space_any c.toNat h128 W; rw [← hbl, hbc] at this; exact this)
        cases fo with
        | none =>
          have HW2 : Hid (P ++ wordsA (curOf s (some pos) (pos + 1)) (s.data.toList.drop (pos + 1)) = wordsL s.data.toList) := Lib.hid (by rw [← hW.out, hD]; show P ++ wordsA (partL s pos (pos + 1)) _ = P ++ wordsA [] (c :: _); rw [words_other _ c _ hbc, hP0]; rfl)
          dsimp only [fromV]
          clear hD hbl hbc hPS hP0 hPN hmk
          go_wp2_with (first | (go_at_call 98; refine (HSP.out _).mono ?_; rintro e w' ⟨rfl, rfl⟩))
          go_roundw
          case rel => exact ⟨pos + 1, some pos, P, by omega, rfl, (fun f h => by cases h; omega), hk1, hown1, by omega, HW2, hb1, hsz1⟩
          case measure => rw [HM.out, iterPos_of hk1.out]; omega
        | some f =>
          have hf : f < pos := hfo f rfl
          have HW2 : Hid (P ++ wordsA (curOf s (some f) (pos + 1)) (s.data.toList.drop (pos + 1)) = wordsL s.data.toList) := Lib.hid (by rw [← hW.out, hD]; show P ++ wordsA (partL s f (pos + 1)) _ = P ++ wordsA (partL s f pos) (c :: _); rw [words_other _ c _ hbc, hPS f hf])
          have hf0 : (0 : Int) ≤ (f : Int) := by omega
          dsimp only [fromV]
          clear hD hbl hbc hPS hP0 hPN hmk
          go_wp2_with (first | (go_at_call 98; refine (HSP.out _).mono ?_; rintro e w' ⟨rfl, rfl⟩))
          go_roundw
          case rel => exact ⟨pos + 1, some f, P, by omega, rfl, (fun g h => by cases h; omega), hk1, hown1, by omega, HW2, hb1, hsz1⟩
          case measure => rw [HM.out, iterPos_of hk1.out]; omega
    · have hnext : ∀ ty, (Instr.next (.pointer (some ⟨w.heap.size, 0, none⟩)) true ty).run Tryz.prog wr = _ := fun ty => Lib.run_next_end_at wr w.heap.size s pos ty hk hlt
      have hpz : pos = s.size := by omega
      have hD : s.data.toList.drop pos = [] := List.drop_eq_nil_of_le (by rw [str_len]; omega)
      cases fo with
      | none =>
        have HE : Hid ((wordsL s.data.toList).map mkB = P.map mkB) := Lib.hid (by rw [← hW.out, hD]; show (P ++ wordsA [] []).map mkB = _; simp [wordsA])
        dsimp only [fromV]
        clear hpz hD
        go_wp2
        go_ret
        refine ⟨_, rfl, ?_, hb⟩
        unfold wordsB
        rw [HE.out, List.length_map]
        exact hown.mono (by omega)
      | some f =>
        have hf : f < pos := hfo f rfl
        have HE : Hid ((wordsL s.data.toList).map mkB = (P ++ [partL s f pos]).map mkB) := Lib.hid (by
          rw [← hW.out, hD]
          show (P ++ wordsA (partL s f pos) []).map mkB = _
          rw [wordsA, if_neg (part_ne s f pos hf hps)])
        have HMK : Hid (s.extract f s.size = mkB (partL s f pos)) := Lib.hid (by rw [← hpz]; exact part_mk s f pos)
        have hf0 : (0 : Int) ≤ (f : Int) := by omega
        dsimp only [fromV]
        clear hpz hD
        go_wp2_with (at_builtin; refine stop_here ?_)
        unfold Stop
        refine wpList_append_own _ rfl _ _ 39 rfl (w.heap.size + 1) 9 i0 (.string ByteArray.empty) 1 16 Tryz.underlying39 hi hz0 hz1 hz2 rfl (by decide) _ _ _ rfl (hown.alloc _) ⟨wr.heap.size, 0, none⟩ 1 1 [_] rfl rfl (cell_one_new _ _ _) ?_ ?_ ?_ ?_ ?_
        · intro u hu; rw [List.mem_singleton] at hu; subst hu; rfl
        · unfold maxLen; omega
        · omega
        · simp; omega
        intro v' w2 hown2 hgrow2 _
        have b2 : Below w.heap.size w w2 := Below.grown (hb.alloc (by omega) _) hgrow2 (by have := hb.size; simp; omega) (fun k hk => by have := (hown.lt k hk).1; omega)
        have HO : Hid (w2.ownsRow (w.heap.size + 1) 9 1 v' (P ++ [partL s f pos]).length (strsV ((P ++ [partL s f pos]).map mkB))) := Lib.hid (by
          rw [strsV_mk, ← HMK.out]
          have h9 := hown2
          rw [show P.length + 1 = (P ++ [partL s f pos]).length from by simp] at h9
          exact h9)
        clear hgrow2 hown2
        go_wp2_with fail
        go_ret
        refine ⟨_, rfl, ?_, b2⟩
        unfold wordsB
        rw [HE.out, List.length_map]
        exact HO.out.mono (by omega)
end Go.Proofs.YtkhggefbkhdimaaGreatDoor
