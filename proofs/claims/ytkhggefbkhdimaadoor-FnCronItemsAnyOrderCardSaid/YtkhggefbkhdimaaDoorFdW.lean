/- laws.FnCronField. -/
import Derived.Test.YtkhggefbkhdimaaDoorFdT
namespace Go.Proofs.YtkhggefbkhdimaaDoor
open Go.RowKit Go.Shelf
set_option linter.unusedVariables false
set_option linter.unusedSimpArgs false

def isKindB (k : Int) : Bool := decide (0 ≤ k) && decide (k < 6)
theorem isKind_any (k : Int) (w : World) : Calls Tryd.prog 6 #[.int .i64 k] w fun e w' => e = .returned (.bool (isKindB k)) ∧ w = w' := by
  unfold isKindB
  by_cases h1 : 0 ≤ k
  · have q1 : decide (0 ≤ k) = true := decide_eq_true h1
    by_cases h2 : k < 6
    · have q2 : decide (k < 6) = true := decide_eq_true h2
      rw [q1, q2]
      go_enter Tryd.func6, Tryd.ntmps6
      go_wp2_with fail
      go_ret
      exact ⟨rfl, rfl⟩
    · have q2 : decide (k < 6) = false := decide_eq_false h2
      rw [q1, q2]
      go_enter Tryd.func6, Tryd.ntmps6
      go_wp2_with fail
      go_ret
      exact ⟨rfl, rfl⟩
  · have q1 : decide (0 ≤ k) = false := decide_eq_false h1
    rw [q1]
    go_enter Tryd.func6, Tryd.ntmps6
    go_wp2_with fail
    go_ret
    exact ⟨rfl, rfl⟩
set_option maxHeartbeats 1000000 in
theorem boundsOf_any (k : Nat) (hk : k < 6) (w : World) : Calls Tryd.prog 8 #[.int .i64 k] w fun e w' => e = .returned (.agg #[.int .i64 (loK k : Nat), .int .i64 (hiK k : Nat), .int .i64 k]) ∧ Below w.heap.size w w' := by
  have HL : Hid (∀ W : World, Calls Tryd.prog 21 #[.int .i64 k] W fun e w' => e = .returned (.int .i64 (loK k : Nat)) ∧ w' = W) := Lib.hid (fun W => low_at k hk W)
  have HH : Hid (∀ W : World, Calls Tryd.prog 22 #[.int .i64 k] W fun e w' => e = .returned (.int .i64 (hiK k : Nat)) ∧ w' = W) := Lib.hid (fun W => high_at k hk W)
  generalize loK k = lo at HL ⊢
  generalize hiK k = hi at HH ⊢
  go_enter Tryd.func8, Tryd.ntmps8
  go_wp2_with (first | (go_at_call 21; refine (HL.out _).mono ?_; rintro e w' ⟨rfl, rfl⟩) | (go_at_call 22; refine (HH.out _).mono ?_; rintro e w' ⟨rfl, rfl⟩))
  all_goals
    refine bodyPost_ret (v := .agg #[.int .i64 lo, .int .i64 hi, .int .i64 k]) (by simp [results, Tryd.results8, go_sem]) rfl ⟨rfl, ?_⟩
    exact (by repeat (first | (with_reducible assumption) | (with_reducible exact Below.refl _ _) | (with_reducible refine below_drewN ?_ _) | (with_reducible refine Below.drew ?_) | (with_reducible refine Below.setCell ?_ (by first | omega | (simp <;> omega)) _) | (with_reducible refine Below.alloc ?_ (by first | omega | (simp <;> omega)) _)))
def FieldIs (lo hi k : Nat) (l : List UInt8) (st : Bool) (f : Nat → Bool) (v : Nat) : Prop := ∀ W : World, Calls Tryd.prog 7 #[.agg #[.int .i64 lo, .int .i64 hi, .int .i64 k], .string (mkB l)] W (SetV st f v W)
def ImplIs (k : Nat) (l : List UInt8) (r : Option Nat) : Prop := ∀ W : World, Hid (Errs W) → Calls Tryd.prog 9 #[.int .i64 k, .string (mkB l)] W (ImpR r W)

set_option maxRecDepth 100000 in
set_option maxHeartbeats 4000000 in
theorem law_cronField (kind : Int) (s : ByteArray) (wk : (Lit.int .i64 kind).wf = true) (ws : s.size ≤ maxLen) (w : World) (he : Hid (Errs w)) :
    Calls Tryd.prog 3 #[.int .i64 kind, .string s] w fun e w' => e = .returned (.bool true) ∧ Below w.heap.size w w' := by
  by_cases hs1 : 2147483647 < s.size
  · have q1 : decide ((2147483647 : Int) < (s.size : Int)) = true := decide_eq_true (by omega)
    unfold maxLen at ws
    go_enter Tryd.func3, Tryd.ntmps3
    go_wp2_with fail
    go_ret
    exact ⟨rfl, Below.refl _ _⟩
  · have q1 : decide ((2147483647 : Int) < (s.size : Int)) = false := decide_eq_false (by omega)
    unfold maxLen at ws
    have hik := isKind_any kind
    cases hkb : isKindB kind with
    | false =>
      rw [hkb] at hik
      have HK := Lib.hid hik
      clear hik hkb
      go_enter Tryd.func3, Tryd.ntmps3
      go_wp2_with (first | (go_at_call 6; refine (HK.out _).mono ?_; rintro e w' ⟨rfl, rfl⟩))
      go_ret
      exact ⟨rfl, Below.refl _ _⟩
    | true =>
      rw [hkb] at hik
      by_cases hs2 : 65536 < s.size
      · have q2 : decide ((65536 : Int) < (s.size : Int)) = true := decide_eq_true (by omega)
        have HK := Lib.hid hik
        clear hik hkb
        go_enter Tryd.func3, Tryd.ntmps3
        go_wp2_with (first | (go_at_call 6; refine (HK.out _).mono ?_; rintro e w' ⟨rfl, rfl⟩))
        go_ret
        exact ⟨rfl, Below.refl _ _⟩
      · have q2 : decide ((65536 : Int) < (s.size : Int)) = false := decide_eq_false (by omega)
        obtain ⟨k, rfl⟩ : ∃ k : Nat, kind = k := ⟨kind.toNat, by unfold isKindB at hkb; simp at hkb; omega⟩
        have hk : k < 6 := by unfold isKindB at hkb; simp at hkb; omega
        have HK := Lib.hid hik
        clear hik hkb
        have hl : s.data.toList.length ≤ 2147483654 := by rw [str_len]; omega
        have hsm : s = mkB s.data.toList := bytes_ext (by rw [mkB_data])
        have hsz : (s.size : Int) = ((mkB s.data.toList).size : Int) := by rw [← hsm]
        have HP := Lib.hid (field_plain k s.data.toList)
        have HF : Hid (FieldIs (loK k) (hiK k) k s.data.toList (fieldT k s.data.toList) (fieldF k s.data.toList) (fieldN k s.data.toList)) := Lib.hid (fun W => cronField_any k hk _ hl W)
        have HI : Hid (ImplIs k s.data.toList (fieldJ k s.data.toList)) := Lib.hid (fun W hE => implField_any k hk _ hl W hE)
        have HBO : Hid (∀ W : World, Calls Tryd.prog 8 #[.int .i64 k] W fun e w' => e = .returned (.agg #[.int .i64 (loK k : Nat), .int .i64 (hiK k : Nat), .int .i64 k]) ∧ Below W.heap.size W w') := Lib.hid (boundsOf_any k hk)
        rw [hsz] at q1 q2
        rw [hsm] at ws ⊢
        clear hsz hsm hl hs1 hs2
        generalize hL9 : s.data.toList = l at *
        clear hL9
        generalize fieldT k l = T9 at HP HF
        generalize fieldF k l = F9 at HP HF
        generalize fieldN k l = V9 at HP HF
        generalize fieldJ k l = J9 at HP HI
        generalize loK k = lo at HF HBO
        generalize hiK k = hi at HF HBO
        go_enter Tryd.func3, Tryd.ntmps3
        go_wp2_with (first | (go_at_call 6; refine (HK.out _).mono ?_; rintro e w' ⟨rfl, rfl⟩))
        refine (HBO.out _).mono ?_
        rintro e w1 ⟨rfl, hb1⟩
        have HB1 := Lib.hid hb1
        clear hb1
        go_wp2_with fail
        refine (HF.out _).mono ?_
        rintro e w2 ⟨rfl, hb2⟩
        have HB2 := Lib.hid (HB1.out.trans (hb2.mono HB1.out.size))
        clear hb2
        have HE2 : Hid (Errs w2) := Lib.hid (he.out.below HB2.out)
        go_wp2_with (first | (refine store_stop rfl 25 (.tmp 5) (.tmp 25) rfl w2.heap.size 0 (setL T9 F9).toArray rfl rfl (infoCS.trans (by simp [setL_len])) (setL_one T9 F9) (stop_here ?_)))
        unfold Stop
        refine ⟨?_, fun hTX => ?_⟩
        · (try rw [setL_len])
          exact there_new _ _ _ _ _ rfl rfl
        obtain ⟨NA, hNA⟩ : ∃ NA, NA = w2.heap.size := ⟨_, rfl⟩
        generalize hX : World.setCells _ _ _ _ = X
        have HRX : Hid (X.rangeAt NA 0 (setL T9 F9)) := Lib.hid (by
          rw [← hX, hNA]
          refine World.rangeAt_setCells_same _ _ _ _ ?_
          rw [setL_len]
          exact there_new _ _ _ _ _ rfl rfl)
        have bX : Below w2.heap.size w2 X := by rw [← hX]; exact below_setCells (Nat.le_refl _) _ _ _ (Below.alloc (Below.refl _ _) (Nat.le_refl _) _)
        have HBX : Hid (Below w.heap.size w X) := Lib.hid (HB2.out.trans (bX.mono HB2.out.size))
        have HEX : Hid (Errs X) := Lib.hid (HE2.out.below bX)
        rw [← hNA]
        clear hX hTX bX hNA
        go_wp2_with fail
        refine (HI.out _ HEX).mono ?_
        rintro e w3 ⟨rfl, hb3⟩
        have HR3 := Lib.hid (rangeAt_below HRX.out hb3)
        have HB3 := Lib.hid (HBX.out.trans (hb3.mono HBX.out.size))
        clear hb3
        have hv9 : V9 = 0 ∨ V9 = 1 ∨ V9 = 2 := by have := HP.out.2.2; omega
        rcases hv9 with rfl | rfl | rfl
        · have HJ : Hid (J9 = none) := Lib.hid (HP.out.1 rfl)
          rw [HJ.out]
          go_wp2_with (first | (refine wpList_load_mid rfl 25 (.tmp 5) rfl NA 0 rfl (setL T9 F9) _ HR3.out Tryd.underlying25 rfl (infoCS.trans (by rw [setL_len])) ?_))
          refine (cronBits_bad _ _).mono ?_
          rintro e w4 ⟨rfl, hb4⟩
          have HB4 := Lib.hid (HB3.out.trans (hb4.mono HB3.out.size))
          clear hb4
          go_wp2_with fail
          go_ret
          exact ⟨rfl, HB4.out⟩
        · have HJ : Hid (J9 = some (bitsN T9 F9)) := Lib.hid (HP.out.2.1 rfl)
          rw [HJ.out]
          go_wp2_with (first | (refine wpList_load_mid rfl 25 (.tmp 5) rfl NA 0 rfl (setL T9 F9) _ HR3.out Tryd.underlying25 rfl (infoCS.trans (by rw [setL_len])) ?_))
          refine (cronBits_fine (bitsN T9 F9) T9 F9 rfl _ (Lib.hid rfl) _).mono ?_
          rintro e w4 ⟨rfl, hb4⟩
          have HB4 := Lib.hid (HB3.out.trans (hb4.mono HB3.out.size))
          clear hb4
          go_wp2_with fail
          go_ret
          exact ⟨rfl, HB4.out⟩
        · obtain ⟨x9, hx9⟩ : ∃ x9 : Nat, x9 = J9.getD 0 := ⟨_, rfl⟩
          obtain ⟨y9, hy9⟩ : ∃ y9 : Bool, y9 = J9.isSome := ⟨_, rfl⟩
          rw [← hx9, ← hy9]
          clear hx9 hy9
          go_wp2_with (first | (refine wpList_load_mid rfl 25 (.tmp 5) rfl NA 0 rfl (setL T9 F9) _ HR3.out Tryd.underlying25 rfl (infoCS.trans (by rw [setL_len])) ?_))
          refine (cronBits_open x9 y9 _ _).mono ?_
          rintro e w4 ⟨rfl, hb4⟩
          have HB4 := Lib.hid (HB3.out.trans (hb4.mono HB3.out.size))
          clear hb4
          go_wp2_with fail
          go_ret
          exact ⟨rfl, HB4.out⟩
end Go.Proofs.YtkhggefbkhdimaaDoor
