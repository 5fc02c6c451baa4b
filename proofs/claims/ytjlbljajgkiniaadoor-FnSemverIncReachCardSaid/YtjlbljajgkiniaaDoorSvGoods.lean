/- svGood over a slice of versions. -/
import Derived.Test.YtjlbljajgkiniaaDoorSvGood
namespace Go.Proofs.YtjlbljajgkiniaaDoor
open Go.RowKit
set_option linter.unusedVariables false
set_option linter.unusedSimpArgs false

abbrev VP := Int × Int × Int × ByteArray × ByteArray
def noV : VP := (0, 0, 0, noStr, noStr)
def okV (v : VP) : Bool := (shortOk v.2.2.2.1 && shortOk v.2.2.2.2) && goodB v.2.2.2.1 v.2.2.2.2

def goodAll (A : List VP) : Bool := A.all okV

theorem vall_step (A : List VP) (f : VP → Bool) (k : Nat) (y : VP) (hk : k < A.length) (hy : A.getD k noV = y) (hf : f y = true) (h : (A.take k).all f = true) : (A.take (k + 1)).all f = true := by
  have e : A[k] = y := by rw [← hy]; simp [List.getD, hk]
  rw [List.take_succ_eq_append_getElem hk, List.all_append, h, e]; simp [hf]
theorem vall_stop (A : List VP) (f : VP → Bool) (k : Nat) (y : VP) (hk : k < A.length) (hy : A.getD k noV = y) (hf : f y = false) : A.all f = false := by
  rw [List.all_eq_false]
  exact ⟨A[k], List.getElem_mem _, by rw [show A[k] = y from by rw [← hy]; simp [List.getD, hk]]; simp [hf]⟩
theorem vall_end (A : List VP) (f : VP → Bool) (k : Nat) (hk : ¬ k < A.length) (h : (A.take k).all f = true) : A.all f = true := by
  rw [List.take_of_length_le (by omega)] at h; exact h

/-- The cells of versions that stand behind each other from the head of block g. -/
def RowAt (w : World) (g : Nat) (A : List VP) : Prop := ∀ i, i < A.length →
  w.cell? ⟨g, i * 5, none⟩ = some (.int .u64 (A.getD i noV).1) ∧ w.cell? ⟨g, i * 5 + 1, none⟩ = some (.int .u64 (A.getD i noV).2.1) ∧ w.cell? ⟨g, i * 5 + 2, none⟩ = some (.int .u64 (A.getD i noV).2.2.1) ∧
  w.cell? ⟨g, i * 5 + 3, none⟩ = some (.string (A.getD i noV).2.2.2.1) ∧ w.cell? ⟨g, i * 5 + 4, none⟩ = some (.string (A.getD i noV).2.2.2.2)

set_option maxRecDepth 100000 in
set_option maxHeartbeats 2000000 in
theorem svGood_any (g cap : Nat) (A : List VP) (hcA : A.length ≤ cap) (hm : A.length ≤ 1000) (hS : Hid (∀ i, (A.getD i noV).2.2.2.1.size ≤ 2147483647 ∧ (A.getD i noV).2.2.2.2.size ≤ 2147483647)) (w : World) (hg : g < w.heap.size) (CA : Hid (RowAt w g A)) :
    Calls Tryd.prog 13 #[.slice (some ⟨g, 0, none⟩) A.length cap] w (BoolPost (goodAll A) w) := by
  go_enter Tryd.func13, Tryd.ntmps13
  go_wp2_with fail
  go_loopw [7] (fun i wr => ∃ k : Nat, k ≤ A.length ∧ i = .int .i64 k ∧ Hid ((A.take k).all okV = true) ∧ Below w.heap.size w wr) (fun i _ => A.length - (intOf i).toNat)
  case atStart => exact ⟨0, Nat.zero_le _, rfl, by show _ = _; simp, Below.refl _ _⟩
  case round =>
    obtain ⟨k, hk, rfl, hrec, hbr⟩ := hrel
    by_cases hkL : k < A.length
    · obtain ⟨y, HX⟩ : ∃ y, Hid (A.getD k noV = y) := ⟨_, rfl⟩
      have HSX := hS.out k
      obtain ⟨k0, k1, k2, k3, k4⟩ := CA.out k hkL
      rw [HX.out] at HSX k0 k1 k2 k3 k4
      obtain ⟨a, b, c, p, m⟩ := y
      simp only at HSX k0 k1 k2 k3 k4
      obtain ⟨HSP, HSM⟩ := HSX
      have k0 := (hbr.cell (p := ⟨g, k * 5, none⟩) hg).trans k0
      have k1 := (hbr.cell (p := ⟨g, k * 5 + 1, none⟩) hg).trans k1
      have k2 := (hbr.cell (p := ⟨g, k * 5 + 2, none⟩) hg).trans k2
      have k3 := (hbr.cell (p := ⟨g, k * 5 + 3, none⟩) hg).trans k3
      have k4 := (hbr.cell (p := ⟨g, k * 5 + 4, none⟩) hg).trans k4
      go_wp2_with fail
      refine (svShort_any _ 2 [p, m] (by simp) (by simp) (fun i => ?_) _ (fun i hi => ?_)).mono ?_
      · rcases i with _ | _ | i
        · exact HSP
        · exact HSM
        · show noStr.size ≤ _; exact Nat.zero_le _
      · have e := cell_of_row ((wr.alloc (.cells #[.int .u64 a, .int .u64 b, .int .u64 c, .string p, .string m] 24)).alloc (.cells #[.string p, .string m] 9)) (wr.heap.size + 1) i #[.string p, .string m] 9 (0, 0) (by have := heap_alloc_new (wr.alloc (.cells #[.int .u64 a, .int .u64 b, .int .u64 c, .string p, .string m] 24)) (.cells #[.string p, .string m] 9); simpa using this)
        rw [e]
        rcases i with _ | _ | i
        · rfl
        · rfl
        · exact absurd hi (by show ¬ i + 1 + 1 < 2; omega)
      rintro e w' ⟨rfl, rfl⟩
      obtain ⟨bs, HBS⟩ : ∃ bs, Hid ([p, m].all shortOk = bs) := ⟨_, rfl⟩
      rw [HBS.out]
      have HV : Hid (okV (a, b, c, p, m) = (bs && goodB p m)) := by
        show _ = _
        rw [← HBS.out]; simp [okV]
      cases bs with
      | false =>
        have HN := Lib.hid (vall_stop A okV k _ hkL HX.out (by rw [HV.out]; rfl))
        go_wp2_with fail
        go_ret
        exact ⟨ret_bool (by unfold goodAll; rw [HN.out]), Below.alloc (Below.alloc hbr (by have := hbr.size; omega) _) (by have := hbr.size; simp; omega) _⟩
      | true =>
        have hp2 : p.size ≤ 65536 := by have := HBS.out; simp [shortOk] at this; exact this.1
        have hm2 : m.size ≤ 65536 := by have := HBS.out; simp [shortOk] at this; exact this.2
        go_wp2_with fail
        refine (good_any a b c p m (by omega) (by omega) _).mono ?_
        rintro e w1 ⟨rfl, hb1⟩
        have b1 : Below w.heap.size w w1 := (Below.alloc (Below.alloc hbr (by have := hbr.size; omega) _) (by have := hbr.size; simp; omega) _).trans (hb1.mono (by have := hbr.size; simp; omega))
        obtain ⟨bg, HBG⟩ : ∃ bg, Hid (goodB p m = bg) := ⟨_, rfl⟩
        rw [HBG.out]
        cases bg with
        | false =>
          have HN := Lib.hid (vall_stop A okV k _ hkL HX.out (by rw [HV.out, HBG.out]; rfl))
          go_wp2_with fail
          go_ret
          exact ⟨ret_bool (by unfold goodAll; rw [HN.out]), b1⟩
        | true =>
          have HN := Lib.hid (vall_step A okV k _ hkL HX.out (by rw [HV.out, HBG.out]; rfl) hrec.out)
          clear hrec
          go_wp2_with fail
          go_roundw
          case rel => exact ⟨k + 1, by omega, by go_num, HN, b1⟩
          case measure => simp [intOf]; omega
    · have HN := Lib.hid (vall_end A okV k hkL hrec.out)
      go_wp2_with fail
      go_ret
      exact ⟨ret_bool (by unfold goodAll; rw [HN.out]), hbr⟩
end Go.Proofs.YtjlbljajgkiniaaDoor
