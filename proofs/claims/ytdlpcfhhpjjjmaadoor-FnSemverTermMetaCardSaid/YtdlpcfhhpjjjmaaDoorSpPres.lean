/- spPres. -/
import Derived.Test.YtdlpcfhhpjjjmaaDoorSvGoods
namespace Go.Proofs.YtdlpcfhhpjjjmaaDoor
open Go.RowKit

def presOk (s : ByteArray) : Bool := neB s && (shortOk s && (vpreB s && smallB s))
def presAll (A : List ByteArray) : Bool := A.all presOk

theorem str1 (W : World) (g : Nat) (hn : g = W.heap.size) (y : ByteArray) : ∀ i, i < [y].length → (W.alloc (.cells #[.string y] 9)).cell? ⟨g, i, none⟩ = some (.string ([y].getD i noStr)) := by
  intro i hi
  have e := cell_of_row (W.alloc (.cells #[.string y] 9)) g i #[.string y] 9 (0, 0) (by subst hn; exact heap_alloc_new W _)
  rw [e]
  rcases i with _ | i
  · rfl
  · exact absurd hi (by show ¬ i + 1 < 1; omega)

set_option maxRecDepth 100000 in
set_option maxHeartbeats 2000000 in
theorem spPres_any (g cap : Nat) (A : List ByteArray) (_hcA : A.length ≤ cap) (hm : A.length ≤ 1000) (hS : Hid (∀ i, (A.getD i noStr).size ≤ 2147483647)) (w : World) (hg : g < w.heap.size) (CA : Hid (∀ i, i < A.length → w.cell? ⟨g, i, none⟩ = some (.string (A.getD i noStr)))) :
    Calls Tryd.prog 20 #[.slice (some ⟨g, 0, none⟩) A.length cap] w (BoolPost (presAll A) w) := by
  go_enter Tryd.func20, Tryd.ntmps20
  go_wp2_with fail
  go_loopw [7] (fun i wr => ∃ k : Nat, k ≤ A.length ∧ i = .int .i64 k ∧ Hid ((A.take k).all presOk = true) ∧ Below w.heap.size w wr) (fun i _ => A.length - (intOf i).toNat)
  case atStart => exact ⟨0, Nat.zero_le _, rfl, by show _ = _; simp, Below.refl _ _⟩
  case round =>
    obtain ⟨k, hk, rfl, hrec, hbr⟩ := hrel
    by_cases hkL : k < A.length
    · obtain ⟨y, HX⟩ : ∃ y, Hid (A.getD k noStr = y) := ⟨_, rfl⟩
      have HSX : y.size ≤ 2147483647 := by rw [← HX.out]; exact hS.out k
      have hca : wr.cell? ⟨g, k, none⟩ = some (.string y) := by rw [hbr.cell (p := ⟨g, k, none⟩) hg, CA.out k (by omega), HX.out]
      cases he : y.toList.isEmpty with
      | true =>
        have hy1 : y.toList = [] := by simpa using he
        have HN := Lib.hid (all_stop A presOk k y hkL HX.out (by unfold presOk neB; rw [he]; rfl))
        clear he
        go_wp2_with fail
        go_ret
        exact ⟨ret_bool (by unfold presAll; rw [HN.out]), hbr⟩
      | false =>
        have HE : Hid (neB y = true) := by show _ = _; unfold neB; rw [he]; rfl
        go_wp2_with fail
        refine (svShort_any _ 1 [y] (by simp) (by simp) (fun i => ?_) _ (str1 _ _ (by simp) y)).mono ?_
        · rcases i with _ | i
          · exact HSX
          · show noStr.size ≤ _; exact Nat.zero_le _
        rintro e w' ⟨rfl, rfl⟩
        obtain ⟨bs, HBS⟩ : ∃ bs, Hid ([y].all shortOk = bs) := ⟨_, rfl⟩
        rw [HBS.out]
        have HBS2 : Hid (shortOk y = bs) := by show _ = _; rw [← HBS.out]; simp
        have bA : ∀ o : Obj, Below w.heap.size w (wr.alloc o) := fun o => Below.alloc hbr (by have := hbr.size; omega) _
        cases bs with
        | false =>
          have HN := Lib.hid (all_stop A presOk k y hkL HX.out (by unfold presOk; rw [HE.out, HBS2.out]; rfl))
          go_wp2_with fail
          go_ret
          exact ⟨ret_bool (by unfold presAll; rw [HN.out]), bA _⟩
        | true =>
          have hy2 : y.size ≤ 65536 := by have := HBS2.out; simp [shortOk] at this; exact this
          obtain ⟨b1, H1⟩ : ∃ b1, Hid (vpreB y = b1) := ⟨_, rfl⟩
          obtain ⟨b2, H2⟩ : ∃ b2, Hid (smallB y = b2) := ⟨_, rfl⟩
          go_wp2_with fail
          refine (validPre_any y (by omega) _).mono ?_
          rintro e w1 ⟨rfl, hb1⟩
          rw [H1.out]
          have bB : Below w.heap.size w w1 := (bA _).trans (hb1.mono (by have := hbr.size; simp; omega))
          cases b1 with
          | false =>
            have HN := Lib.hid (all_stop A presOk k y hkL HX.out (by unfold presOk; rw [HE.out, HBS2.out, H1.out]; rfl))
            go_wp2_with fail
            go_ret
            exact ⟨ret_bool (by unfold presAll; rw [HN.out]), bB⟩
          | true =>
            go_wp2_with fail
            refine (smallPre_any y (by omega) _).mono ?_
            rintro e w2 ⟨rfl, hb2⟩
            rw [H2.out]
            have bC : Below w.heap.size w w2 := bB.trans (hb2.mono bB.size)
            cases b2 with
            | false =>
              have HN := Lib.hid (all_stop A presOk k y hkL HX.out (by unfold presOk; rw [HE.out, HBS2.out, H1.out, H2.out]; rfl))
              go_wp2_with fail
              go_ret
              exact ⟨ret_bool (by unfold presAll; rw [HN.out]), bC⟩
            | true =>
              have HN := Lib.hid (all_step A presOk k y hkL HX.out (by unfold presOk; rw [HE.out, HBS2.out, H1.out, H2.out]; rfl) hrec.out)
              clear hrec
              go_wp2_with fail
              go_roundw
              case rel => exact ⟨k + 1, by omega, by go_num, HN, bC⟩
              case measure => simp [intOf]; omega
    · have HN := Lib.hid (all_end A presOk k hkL hrec.out)
      go_wp2_with fail
      go_ret
      exact ⟨ret_bool (by unfold presAll; rw [HN.out]), hbr⟩
end Go.Proofs.YtdlpcfhhpjjjmaaDoor
