/- semver.validateMetadata, validatePrerelease of valid texts. -/
import Derived.Test.YtbipmpojmfbekaaDoorConly
import Derived.Test.YtbipmpojmfbekaaDoorSpecOk
namespace Go.Proofs.YtbipmpojmfbekaaDoor
open Go.RowKit
set_option linter.unusedVariables false
set_option linter.unusedSimpArgs false

def numT : ByteArray := ⟨#[48, 49, 50, 51, 52, 53, 54, 55, 56, 57]⟩
def alT : ByteArray := ⟨#[97, 98, 99, 100, 101, 102, 103, 104, 105, 106, 107, 108, 109, 110, 111, 112, 113, 114, 115, 116, 117, 118, 119, 120, 121, 122, 65, 66, 67, 68, 69, 70, 71, 72, 73, 74, 75, 76, 77, 78, 79, 80, 81, 82, 83, 84, 85, 86, 87, 88, 89, 90, 45, 48, 49, 50, 51, 52, 53, 54, 55, 56, 57]⟩
theorem num_tab : ((List.range 256).all fun n => inB numT (n : Int) == dgI (n : Int)) = true := by kernel_rfl
theorem al_tab : ((List.range 256).all fun n => inB alT (n : Int) == idI (n : Int)) = true := by kernel_rfl
theorem num_in (b : UInt8) : inB numT (b.toNat : Int) = dgI (b.toNat : Int) := by
  have := List.all_eq_true.1 num_tab b.toNat (List.mem_range.2 b.toNat_lt)
  simpa using this
theorem al_in (b : UInt8) : inB alT (b.toNat : Int) = idI (b.toNat : Int) := by
  have := List.all_eq_true.1 al_tab b.toNat (List.mem_range.2 b.toNat_lt)
  simpa using this
theorem only_num (s : ByteArray) : onlyB s numT = allB dgI s := by
  unfold onlyB allB
  congr 1
  funext b
  exact num_in b
theorem only_al (s : ByteArray) : onlyB s alT = allB idI s := by
  unfold onlyB allB
  congr 1
  funext b
  exact al_in b
theorem num_plain : plainB numT.data.toList = true := by decide
theorem al_plain : plainB alT.data.toList = true := by decide
theorem id_plain (s : ByteArray) (h : allB idI s = true) : plainB s.data.toList = true := by
  unfold allB at h
  unfold plainB
  rw [List.all_eq_true] at h ⊢
  intro b hb
  have := h b hb
  unfold idI dgI at this
  simp only [Bool.or_eq_true, Bool.and_eq_true, decide_eq_true_eq] at this
  simp only [decide_eq_true_eq]
  omega
theorem vid_parts (s : ByteArray) (h : vidB s = true) : allB idI s = true ∧ s.toList.isEmpty = false := by
  unfold vidB neB at h
  simp only [Bool.and_eq_true, Bool.not_eq_true'] at h
  exact h

set_option maxRecDepth 100000 in
set_option maxHeartbeats 2000000 in
theorem validateMetadata_any (s : ByteArray) (hs : s.size ≤ 2147483647) (hv : Hid ((cutB 46 s).all vidB = true)) (w : World) :
    Calls Tryd.prog 23 #[.string s] w fun e w' => e = .returned .nilIface ∧ Below w.heap.size w w' := by
  go_enter Tryd.func23, Tryd.ntmps23
  go_wp2_with fail
  refine (splitSv_any s 46 (by omega) _).mono ?_
  rintro e w1 ⟨v1, rfl, hown1, hb1⟩
  rw [show ((46 : UInt8).toNat : Int) = 46 from rfl] at hown1
  have HA := Lib.hid (cutB_ne 46 s)
  have hA := cutB_len 46 s
  generalize cutB 46 s = A at *
  obtain ⟨gA, capA, rfl, hcA, hmA, hcellA⟩ := own_open hown1 HA
  have hgA : gA < w1.heap.size := (hown1.lt gA rfl).2
  have CA := Lib.hid hcellA
  unfold maxLen at hmA
  clear hown1 hcellA
  go_wp2_with fail
  go_loopw [10] (fun i wr => ∃ k : Nat, k ≤ A.length ∧ i = .int .i64 k ∧ Below w1.heap.size w1 wr) (fun i _ => A.length - (intOf i).toNat)
  case atStart => exact ⟨0, Nat.zero_le _, rfl, Below.refl _ _⟩
  case round =>
    obtain ⟨k, hk, rfl, hbr⟩ := hrel
    have bw : Below w.heap.size w wr := hb1.trans (hbr.mono hb1.size)
    by_cases hlt : k < A.length
    · obtain ⟨x, HX⟩ : ∃ x, Hid (A.getD k noStr = x) := ⟨_, rfl⟩
      have hxx : Hid (vidB x = true) := by
        have h1 := List.all_eq_true.1 hv.out (A[k]) (List.getElem_mem _)
        have e : A[k] = x := by rw [← HX.out]; simp [List.getD, hlt]
        show _ = _
        rw [← e]; exact h1
      have hca : wr.cell? ⟨gA, k, none⟩ = some (.string x) := by rw [hbr.cell (p := ⟨gA, k, none⟩) hgA, CA.out k (by omega), HX.out]
      obtain ⟨a1, a2⟩ := vid_parts x hxx.out
      have hpl := Lib.hid (id_plain x a1)
      have hon := Lib.hid ((only_al x).trans a1)
      clear a1
      go_wp2_with fail
      refine (conly_any x alT hpl al_plain _).mono ?_
      rintro e w3 ⟨rfl, hb3⟩
      rw [hon.out]
      have b3 : Below w1.heap.size w1 w3 := hbr.trans (hb3.mono hbr.size)
      go_wp2_with fail
      go_roundw
      case rel => exact ⟨k + 1, by omega, by go_num, b3⟩
      case measure => simp [intOf]; omega
    · go_wp2_with fail
      go_ret
      exact ⟨rfl, bw⟩

set_option maxRecDepth 100000 in
set_option maxHeartbeats 2000000 in
theorem validatePrerelease_any (s : ByteArray) (hs : s.size ≤ 2147483647) (hv : Hid ((cutB 46 s).all preOk = true)) (w : World) :
    Calls Tryd.prog 24 #[.string s] w fun e w' => e = .returned .nilIface ∧ Below w.heap.size w w' := by
  go_enter Tryd.func24, Tryd.ntmps24
  go_wp2_with fail
  refine (splitSv_any s 46 (by omega) _).mono ?_
  rintro e w1 ⟨v1, rfl, hown1, hb1⟩
  rw [show ((46 : UInt8).toNat : Int) = 46 from rfl] at hown1
  have HA := Lib.hid (cutB_ne 46 s)
  have hA := cutB_len 46 s
  generalize cutB 46 s = A at *
  obtain ⟨gA, capA, rfl, hcA, hmA, hcellA⟩ := own_open hown1 HA
  have hgA : gA < w1.heap.size := (hown1.lt gA rfl).2
  have CA := Lib.hid hcellA
  unfold maxLen at hmA
  clear hown1 hcellA
  go_wp2_with fail
  go_loopw [10] (fun i wr => ∃ k : Nat, k ≤ A.length ∧ i = .int .i64 k ∧ Below w1.heap.size w1 wr) (fun i _ => A.length - (intOf i).toNat)
  case atStart => exact ⟨0, Nat.zero_le _, rfl, Below.refl _ _⟩
  case round =>
    obtain ⟨k, hk, rfl, hbr⟩ := hrel
    have bw : Below w.heap.size w wr := hb1.trans (hbr.mono hb1.size)
    by_cases hlt : k < A.length
    · obtain ⟨x, HX⟩ : ∃ x, Hid (A.getD k noStr = x) := ⟨_, rfl⟩
      have hxx : Hid (preOk x = true) := by
        have h1 := List.all_eq_true.1 hv.out (A[k]) (List.getElem_mem _)
        have e : A[k] = x := by rw [← HX.out]; simp [List.getD, hlt]
        show _ = _
        rw [← e]; exact h1
      have hca : wr.cell? ⟨gA, k, none⟩ = some (.string x) := by rw [hbr.cell (p := ⟨gA, k, none⟩) hgA, CA.out k (by omega), HX.out]
      have hxp := hxx.out
      unfold preOk at hxp
      simp only [Bool.and_eq_true, Bool.not_eq_true'] at hxp
      obtain ⟨hv1, hz⟩ := hxp
      obtain ⟨a1, a2⟩ := vid_parts x hv1
      have hpl := Lib.hid (id_plain x a1)
      have hon := Lib.hid ((only_al x).trans a1)
      have hdg := Lib.hid (only_num x)
      have hz2 := Lib.hid hz
      clear a1 hv1 hz
      cases hb : allB dgI x with
      | true =>
        rw [hb] at hdg
        have hsz : x.size ≤ 1 ∨ (1 < x.size ∧ ∀ h : 0 < x.size, (((x[0]'h).toNat : Int) == 48) = false) := by
          by_cases h1 : 1 < x.size
          · refine .inr ⟨h1, fun h => ?_⟩
            have h3 := hz2.out
            unfold zeroB digB neB at h3
            rw [hb, a2, decide_eq_true h1] at h3
            simpa [byte0, h] using h3
          · exact .inl (by omega)
        clear hb
        rcases hsz with h1 | ⟨h1, h2⟩
        · have l1 : ((1 : Int) < (x.size : Int)) = False := eq_false (by omega)
          have l2 : (1 < x.size) = False := eq_false (by omega)
          go_wp2_with fail
          refine (conly_any x numT hpl num_plain _).mono ?_
          rintro e w3 ⟨rfl, hb3⟩
          rw [hdg.out]
          have b3 : Below w1.heap.size w1 w3 := hbr.trans (hb3.mono hbr.size)
          go_wp2_with fail
          go_roundw
          case rel => exact ⟨k + 1, by omega, by go_num, b3⟩
          case measure => simp [intOf]; omega
        · have l1 : ((1 : Int) < (x.size : Int)) = True := eq_true (by omega)
          have l2 := h2 (by omega)
          have l3 : 0 < x.size := by omega
          clear h2
          go_wp2_with fail
          refine (conly_any x numT hpl num_plain _).mono ?_
          rintro e w3 ⟨rfl, hb3⟩
          rw [hdg.out]
          have b3 : Below w1.heap.size w1 w3 := hbr.trans (hb3.mono hbr.size)
          go_wp2_with fail
          go_roundw
          case rel => exact ⟨k + 1, by omega, by go_num, b3⟩
          case measure => simp [intOf]; omega
      | false =>
        rw [hb] at hdg
        clear hb
        go_wp2_with fail
        refine (conly_any x numT hpl num_plain _).mono ?_
        rintro e w2 ⟨rfl, hb2⟩
        rw [hdg.out]
        go_wp2_with fail
        refine (conly_any x alT hpl al_plain _).mono ?_
        rintro e w3 ⟨rfl, hb3⟩
        rw [hon.out]
        replace hb3 : Below wr.heap.size wr w3 := hb2.trans (hb3.mono hb2.size)
        have b3 : Below w1.heap.size w1 w3 := hbr.trans (hb3.mono hbr.size)
        go_wp2_with fail
        go_roundw
        case rel => exact ⟨k + 1, by omega, by go_num, b3⟩
        case measure => simp [intOf]; omega
    · go_wp2_with fail
      go_ret
      exact ⟨rfl, bw⟩

end Go.Proofs.YtbipmpojmfbekaaDoor
