/- spec.cronBlank, CronWords. -/
import Derived.Test.YtkhggefbkhdimaaGreatDoorFeA
namespace Go.Proofs.YtkhggefbkhdimaaGreatDoor
open Go.RowKit
set_option linter.unusedVariables false
set_option linter.unusedSimpArgs false

theorem blank_any (c : UInt8) (w : World) : Calls Tryz.prog 38 #[.int .u8 (c.toNat : Int)] w fun e w' => e = .returned (.bool (blankB c)) ∧ w = w' := by
  unfold blankB
  generalize c.toNat = x
  have e1 : ((x : Int) == 32) = decide (x = 32) := by by_cases h : x = 32 <;> simp [h] <;> omega
  have e2 : decide ((9 : Int) ≤ (x : Int)) = decide (9 ≤ x) := by by_cases h : 9 ≤ x <;> simp [h] <;> omega
  have e3 : decide ((x : Int) ≤ 13) = decide (x ≤ 13) := by by_cases h : x ≤ 13 <;> simp [h] <;> omega
  generalize decide (x = 32) = b1 at *
  generalize decide (9 ≤ x) = b2 at *
  generalize decide (x ≤ 13) = b3 at *
  cases b1 <;> cases b2 <;> cases b3
  all_goals
    go_enter Tryz.func38, Tryz.ntmps38
    go_wp2_with fail
    go_ret
    exact ⟨rfl, rfl⟩

set_option maxRecDepth 100000 in
set_option maxHeartbeats 4000000 in
theorem cronWords_any (s : ByteArray) (hs : s.size ≤ 2147483654) (w : World) :
    Calls Tryz.prog 11 #[.string s] w (StrsPost (wordsB s) w) := by
  obtain ⟨i0, hi, hz0, hz1, hz2⟩ := info_parts Tryz.infoStr
  go_enter Tryz.func11, Tryz.ntmps11
  go_wp2_with fail
  go_loopw [3, 4, 8] (fun v fr i wr => ∃ (pos : Nat) (fo : Option Nat) (P : List (List UInt8)), pos ≤ s.size ∧ i = .int .i64 pos ∧ fr = .int .i64 (fromV fo) ∧ fromOk fo pos ∧ wr.ownsRow w.heap.size 9 1 v P.length (strsV (P.map mkB)) ∧ P.length ≤ pos ∧ Hid (P ++ wordsA (curOf s fo pos) (s.data.toList.drop pos) = wordsL s.data.toList) ∧ Below w.heap.size w wr)
    (fun _ _ i _ => s.size - (intOf i).toNat)
  case atStart => exact ⟨0, none, [], Nat.zero_le _, rfl, rfl, (fun f h => by cases h), ⟨by simp [strsV], .inl ⟨rfl, rfl⟩⟩, Nat.le_refl _, Lib.hid (by rw [List.drop_zero]; rfl), Below.refl _ _⟩
  case round =>
    obtain ⟨pos, fo, P, hps, rfl, rfl, hfo, hown, hPl, hW, hb⟩ := hrel
    by_cases hlt : pos < s.size
    · obtain ⟨x, hx⟩ : ∃ x : Int, x = (s[pos].toNat : Int) := ⟨_, rfl⟩
      have HI := idxS s pos hlt x hx
      have hD := drop_at s pos hlt
      have hPS : ∀ f, f < pos → partL s f (pos + 1) = partL s f pos ++ [s[pos]] := fun f hf => part_snoc s f pos (by omega) hlt
      have hP0 : partL s pos (pos + 1) = [s[pos]] := by
        rw [part_snoc s pos pos (Nat.le_refl _) hlt]
        unfold partL
        simp
      have hPN : ∀ f, f < pos → partL s f pos ≠ [] := fun f hf => part_ne s f pos hf hps
      have hmk : ∀ f, s.extract f pos = mkB (partL s f pos) := fun f => part_mk s f pos
      cases hbc : blankB s[pos] with
      | true =>
        have HSP : Hid (∀ W : World, Calls Tryz.prog 38 #[.int .u8 x] W fun e w' => e = .returned (.bool true) ∧ W = w') := Lib.hid (fun W => by have := blank_any (s[pos]) W; rw [hbc, ← hx] at this; exact this)
        cases fo with
        | none =>
          have HW2 : Hid (P ++ wordsA [] (s.data.toList.drop (pos + 1)) = wordsL s.data.toList) := Lib.hid (by rw [← hW.out, hD]; show _ = P ++ wordsA [] (_ :: _); rw [words_blank_e _ _ hbc])
          dsimp only [fromV]
          clear hD hbc hPS hP0 hPN hmk hx
          go_wp2_with (first | (go_at_call 38; refine (HSP.out _).mono ?_; rintro e w' ⟨rfl, rfl⟩))
          go_roundw
          case rel => exact ⟨pos + 1, none, P, by omega, by go_num, rfl, (fun f h => by cases h), hown, by omega, HW2, hb⟩
          case measure => simp [intOf]; omega
        | some f =>
          have hf : f < pos := hfo f rfl
          have hf0 : (0 : Int) ≤ (f : Int) := by omega
          have hf1 : decide ((0 : Int) ≤ (f : Int)) = true := decide_eq_true hf0
          have hf2 : decide ((f : Int) < (0 : Int)) = false := decide_eq_false (by omega)
          have HW2 : Hid ((P ++ [partL s f pos]) ++ wordsA [] (s.data.toList.drop (pos + 1)) = wordsL s.data.toList) := Lib.hid (by rw [← hW.out, hD]; show _ = P ++ wordsA (partL s f pos) (_ :: _); rw [words_blank _ _ _ (hPN f hf) hbc]; simp)
          have HMK := Lib.hid (hmk f)
          dsimp only [fromV]
          clear hD hbc hPS hP0 hPN hmk hx
          go_wp2_with (first | (go_at_call 38; refine (HSP.out _).mono ?_; rintro e w' ⟨rfl, rfl⟩) | (at_builtin; refine stop_here ?_))
          unfold Stop
          refine wpList_append_own _ rfl _ _ 39 rfl w.heap.size 9 i0 (.string ByteArray.empty) 1 16 Tryz.underlying39 hi hz0 hz1 hz2 rfl (by decide) _ _ _ rfl (hown.alloc _) ⟨wr.heap.size, 0, none⟩ 1 1 [_] rfl rfl (cell_one_new _ _ _) ?_ ?_ ?_ ?_ ?_
          · intro u hu; rw [List.mem_singleton] at hu; subst hu; rfl
          · unfold maxLen; omega
          · omega
          · have := hb.size; simp; omega
          intro v' w2 hown2 hgrow2 _
          have b2 : Below w.heap.size w w2 := Below.grown (hb.alloc hb.size _) hgrow2 (by have := hb.size; simp; omega) (fun k hk => (hown.lt k hk).1)
          have HO : Hid (w2.ownsRow w.heap.size 9 1 v' (P ++ [partL s f pos]).length (strsV ((P ++ [partL s f pos]).map mkB))) := Lib.hid (by
            rw [strsV_mk, ← HMK.out]
            have h9 := hown2
            rw [show P.length + 1 = (P ++ [partL s f pos]).length from by simp] at h9
            exact h9)
          clear hgrow2 hown2
          go_wp2_with fail
          go_roundw
          case rel => exact ⟨pos + 1, none, P ++ [partL s f pos], by omega, by go_num, rfl, (fun f h => by cases h), HO.out, by simp; omega, HW2, b2⟩
          case measure => simp [intOf]; omega
      | false =>
        have HSP : Hid (∀ W : World, Calls Tryz.prog 38 #[.int .u8 x] W fun e w' => e = .returned (.bool false) ∧ W = w') := Lib.hid (fun W => by have := blank_any (s[pos]) W; rw [hbc, ← hx] at this; exact this)
        cases fo with
        | none =>
          have HW2 : Hid (P ++ wordsA (curOf s (some pos) (pos + 1)) (s.data.toList.drop (pos + 1)) = wordsL s.data.toList) := Lib.hid (by rw [← hW.out, hD]; show P ++ wordsA (partL s pos (pos + 1)) _ = P ++ wordsA [] (_ :: _); rw [words_other _ _ _ hbc, hP0]; rfl)
          dsimp only [fromV]
          clear hD hbc hPS hP0 hPN hmk hx
          go_wp2_with (first | (go_at_call 38; refine (HSP.out _).mono ?_; rintro e w' ⟨rfl, rfl⟩))
          go_roundw
          case rel => exact ⟨pos + 1, some pos, P, by omega, by go_num, rfl, (fun f h => by cases h; omega), hown, by omega, HW2, hb⟩
          case measure => simp [intOf]; omega
        | some f =>
          have hf : f < pos := hfo f rfl
          have hf0 : (0 : Int) ≤ (f : Int) := by omega
          have hf1 : decide ((0 : Int) ≤ (f : Int)) = true := decide_eq_true hf0
          have hf2 : decide ((f : Int) < (0 : Int)) = false := decide_eq_false (by omega)
          have HW2 : Hid (P ++ wordsA (curOf s (some f) (pos + 1)) (s.data.toList.drop (pos + 1)) = wordsL s.data.toList) := Lib.hid (by rw [← hW.out, hD]; show P ++ wordsA (partL s f (pos + 1)) _ = P ++ wordsA (partL s f pos) (_ :: _); rw [words_other _ _ _ hbc, hPS f hf])
          dsimp only [fromV]
          clear hD hbc hPS hP0 hPN hmk hx
          go_wp2_with (first | (go_at_call 38; refine (HSP.out _).mono ?_; rintro e w' ⟨rfl, rfl⟩))
          go_roundw
          case rel => exact ⟨pos + 1, some f, P, by omega, by go_num, rfl, (fun g h => by cases h; omega), hown, by omega, HW2, hb⟩
          case measure => simp [intOf]; omega
    · have hpz : pos = s.size := by omega
      have hD : s.data.toList.drop pos = [] := List.drop_eq_nil_of_le (by rw [str_len]; omega)
      cases fo with
      | none =>
        have HE : Hid ((wordsL s.data.toList).map mkB = P.map mkB) := Lib.hid (by rw [← hW.out, hD]; show (P ++ wordsA [] []).map mkB = _; simp [wordsA])
        dsimp only [fromV]
        clear hD
        go_wp2_with fail
        go_ret
        refine ⟨_, rfl, ?_, hb⟩
        unfold wordsB
        rw [HE.out, List.length_map]
        exact hown
      | some f =>
        have hf : f < pos := hfo f rfl
        have HE : Hid ((wordsL s.data.toList).map mkB = (P ++ [partL s f pos]).map mkB) := Lib.hid (by
          rw [← hW.out, hD]
          show (P ++ wordsA (partL s f pos) []).map mkB = _
          rw [wordsA, if_neg (part_ne s f pos hf hps)])
        have HMK : Hid (s.extract f s.size = mkB (partL s f pos)) := Lib.hid (by rw [← hpz]; exact part_mk s f pos)
        have hf0 : (0 : Int) ≤ (f : Int) := by omega
        have hf1 : decide ((0 : Int) ≤ (f : Int)) = true := decide_eq_true hf0
        dsimp only [fromV]
        clear hD
        go_wp2_with (at_builtin; refine stop_here ?_)
        unfold Stop
        refine wpList_append_own _ rfl _ _ 39 rfl w.heap.size 9 i0 (.string ByteArray.empty) 1 16 Tryz.underlying39 hi hz0 hz1 hz2 rfl (by decide) _ _ _ rfl (hown.alloc _) ⟨wr.heap.size, 0, none⟩ 1 1 [_] rfl rfl (cell_one_new _ _ _) ?_ ?_ ?_ ?_ ?_
        · intro u hu; rw [List.mem_singleton] at hu; subst hu; rfl
        · unfold maxLen; omega
        · omega
        · have := hb.size; simp; omega
        intro v' w2 hown2 hgrow2 _
        have b2 : Below w.heap.size w w2 := Below.grown (hb.alloc hb.size _) hgrow2 (by have := hb.size; simp; omega) (fun k hk => (hown.lt k hk).1)
        have HO : Hid (w2.ownsRow w.heap.size 9 1 v' (P ++ [partL s f pos]).length (strsV ((P ++ [partL s f pos]).map mkB))) := Lib.hid (by
          rw [strsV_mk, ← HMK.out]
          have h9 := hown2
          rw [show P.length + 1 = (P ++ [partL s f pos]).length from by simp] at h9
          exact h9)
        clear hgrow2 hown2
        go_wp2_with fail
        go_ret
        refine ⟨_, rfl, ?_, b2⟩
        unfold wordsB
        rw [HE.out, List.length_map]
        exact HO.out
end Go.Proofs.YtkhggefbkhdimaaGreatDoor
