/- spec.ValidMeta, ValidPre, SmallPre, Good; svShort, svGood, svPre, svMeta, zzFits14. -/
import Derived.Test.YtjlbljajgkiniaaDoorSpecIds
namespace Go.Proofs.YtjlbljajgkiniaaDoor
open Go.RowKit

theorem all_step (A : List ByteArray) (f : ByteArray → Bool) (k : Nat) (y : ByteArray) (hk : k < A.length) (hy : A.getD k noStr = y) (hf : f y = true) (h : (A.take k).all f = true) : (A.take (k + 1)).all f = true := by
  have e : A[k] = y := by rw [← hy]; simp [List.getD, hk]
  rw [List.take_succ_eq_append_getElem hk, List.all_append, h, e]; simp [hf]
theorem all_stop (A : List ByteArray) (f : ByteArray → Bool) (k : Nat) (y : ByteArray) (hk : k < A.length) (hy : A.getD k noStr = y) (hf : f y = false) : A.all f = false := by
  rw [List.all_eq_false]
  exact ⟨A[k], List.getElem_mem _, by rw [show A[k] = y from by rw [← hy]; simp [List.getD, hk]]; simp [hf]⟩
theorem all_end (A : List ByteArray) (f : ByteArray → Bool) (k : Nat) (hk : ¬ k < A.length) (h : (A.take k).all f = true) : A.all f = true := by
  rw [List.take_of_length_le (by omega)] at h; exact h

/-- The first byte, or 0. -/
def byte0 (s : ByteArray) : Int := if h : 0 < s.size then (s[0].toNat : Int) else 0
/-- A number with a leading zero. -/
def zeroB (s : ByteArray) : Bool := digB s && (decide (1 < s.size) && byte0 s == 48)
def preOk (s : ByteArray) : Bool := vidB s && !zeroB s
def smallOk (s : ByteArray) : Bool := !(digB s && decide (19 < s.size))
def vmetaB (s : ByteArray) : Bool := (cutB 46 s).all vidB
def vpreB (s : ByteArray) : Bool := (cutB 46 s).all preOk
def smallB (s : ByteArray) : Bool := (cutB 46 s).all smallOk

def BoolPost (b : Bool) (w : World) (e : Ending) (w' : World) : Prop := e = .returned (.bool b) ∧ Below w.heap.size w w'

set_option maxRecDepth 100000 in
set_option maxHeartbeats 2000000 in
theorem validMeta_any (s : ByteArray) (hs : s.size ≤ 2147483653) (w : World) :
    Calls Tryd.prog 47 #[.string s] w (BoolPost (vmetaB s) w) := by
  go_enter Tryd.func47, Tryd.ntmps47
  go_wp2_with fail
  refine (identifiers_any s (by omega) _).mono ?_
  rintro e w1 ⟨v1, rfl, hown1, hb1⟩
  have hA := cutB_len 46 s
  have HA := Lib.hid (cutB_ne 46 s)
  have SA := Lib.hid (cutB_size 46 s)
  have hgoal : Hid (vmetaB s = (cutB 46 s).all vidB) := rfl
  generalize cutB 46 s = A at *
  obtain ⟨gA, capA, rfl, hcA, hmA, hcellA⟩ := own_open hown1 HA
  have hgA : gA < w1.heap.size := (hown1.lt gA rfl).2
  have CA := Lib.hid hcellA
  unfold maxLen at hmA
  clear hown1 hcellA
  go_wp2_with fail
  go_loopw [8] (fun i wr => ∃ k : Nat, k ≤ A.length ∧ i = .int .i64 k ∧ Hid ((A.take k).all vidB = true) ∧ Below w1.heap.size w1 wr) (fun i _ => A.length - (intOf i).toNat)
  case atStart => exact ⟨0, Nat.zero_le _, rfl, by show _ = _; simp, Below.refl _ _⟩
  case round =>
    obtain ⟨k, hk, rfl, hrec, hbr⟩ := hrel
    by_cases hkL : k < A.length
    · obtain ⟨y, HX⟩ : ∃ y, Hid (A.getD k noStr = y) := ⟨_, rfl⟩
      have HSX : y.size ≤ 2147483654 := by rw [← HX.out]; have := SA.out k; omega
      have hca : wr.cell? ⟨gA, k, none⟩ = some (.string y) := by rw [hbr.cell (p := ⟨gA, k, none⟩) hgA, CA.out k (by omega), HX.out]
      have hv := Lib.hid (validIdent_any y HSX wr)
      have HF : Hid (vidB y = vidB y) := rfl
      generalize hb9 : vidB y = b9 at hv
      have HB := Lib.hid hb9
      clear hb9
      cases b9 with
      | true =>
        have HN := Lib.hid (all_step A vidB k y hkL HX.out (by exact HB.out) hrec.out)
        clear hrec 
        go_wp2_with (first | (go_at_call 61; refine hv.out.mono ?_; rintro e w' ⟨rfl, rfl⟩))
        go_roundw
        case rel => exact ⟨k + 1, by omega, by go_num, HN, hbr⟩
        case measure => simp [intOf]; omega
      | false =>
        have HN := Lib.hid (all_stop A vidB k y hkL HX.out (by exact HB.out))
        clear hrec 
        go_wp2_with (first | (go_at_call 61; refine hv.out.mono ?_; rintro e w' ⟨rfl, rfl⟩))
        go_ret
        exact ⟨ret_bool (by rw [hgoal.out, HN.out]), hb1.trans (hbr.mono hb1.size)⟩
    · have HN := Lib.hid (all_end A vidB k hkL hrec.out)
      go_wp2_with fail
      go_ret
      exact ⟨ret_bool (by rw [hgoal.out, HN.out]), hb1.trans (hbr.mono hb1.size)⟩

set_option maxRecDepth 100000 in
set_option maxHeartbeats 2000000 in
theorem smallPre_any (s : ByteArray) (hs : s.size ≤ 2147483653) (w : World) :
    Calls Tryd.prog 46 #[.string s] w (BoolPost (smallB s) w) := by
  go_enter Tryd.func46, Tryd.ntmps46
  go_wp2_with fail
  refine (identifiers_any s (by omega) _).mono ?_
  rintro e w1 ⟨v1, rfl, hown1, hb1⟩
  have hA := cutB_len 46 s
  have HA := Lib.hid (cutB_ne 46 s)
  have SA := Lib.hid (cutB_size 46 s)
  have hgoal : Hid (smallB s = (cutB 46 s).all smallOk) := rfl
  generalize cutB 46 s = A at *
  obtain ⟨gA, capA, rfl, hcA, hmA, hcellA⟩ := own_open hown1 HA
  have hgA : gA < w1.heap.size := (hown1.lt gA rfl).2
  have CA := Lib.hid hcellA
  unfold maxLen at hmA
  clear hown1 hcellA
  go_wp2_with fail
  go_loopw [8] (fun i wr => ∃ k : Nat, k ≤ A.length ∧ i = .int .i64 k ∧ Hid ((A.take k).all smallOk = true) ∧ Below w1.heap.size w1 wr) (fun i _ => A.length - (intOf i).toNat)
  case atStart => exact ⟨0, Nat.zero_le _, rfl, by show _ = _; simp, Below.refl _ _⟩
  case round =>
    obtain ⟨k, hk, rfl, hrec, hbr⟩ := hrel
    by_cases hkL : k < A.length
    · obtain ⟨y, HX⟩ : ∃ y, Hid (A.getD k noStr = y) := ⟨_, rfl⟩
      have HSX : y.size ≤ 2147483654 := by rw [← HX.out]; have := SA.out k; omega
      have hca : wr.cell? ⟨gA, k, none⟩ = some (.string y) := by rw [hbr.cell (p := ⟨gA, k, none⟩) hgA, CA.out k (by omega), HX.out]
      have hd := Lib.hid (digits_any y HSX wr)
      generalize hb9 : digB y = b9 at hd
      have HB := Lib.hid hb9
      clear hb9
      cases b9 with
      | false =>
        have HN := Lib.hid (all_step A smallOk k y hkL HX.out (by unfold smallOk; rw [HB.out]; rfl) hrec.out)
        clear hrec 
        go_wp2_with (first | (go_at_call 56; refine hd.out.mono ?_; rintro e w' ⟨rfl, rfl⟩))
        go_roundw
        case rel => exact ⟨k + 1, by omega, by go_num, HN, hbr⟩
        case measure => simp [intOf]; omega
      | true =>
        cases hl : decide (19 < y.size) with
        | false =>
          have hl2 : ¬ 19 < y.size := by simpa using hl
          have HL := Lib.hid hl
          clear hl
          have HN := Lib.hid (all_step A smallOk k y hkL HX.out (by unfold smallOk; rw [HB.out, HL.out]; rfl) hrec.out)
          clear hrec 
          go_wp2_with (first | (go_at_call 56; refine hd.out.mono ?_; rintro e w' ⟨rfl, rfl⟩))
          go_roundw
          case rel => exact ⟨k + 1, by omega, by go_num, HN, hbr⟩
          case measure => simp [intOf]; omega
        | true =>
          have hl2 : 19 < y.size := by simpa using hl
          have HL := Lib.hid hl
          clear hl
          have HN := Lib.hid (all_stop A smallOk k y hkL HX.out (by unfold smallOk; rw [HB.out, HL.out]; rfl))
          clear hrec 
          go_wp2_with (first | (go_at_call 56; refine hd.out.mono ?_; rintro e w' ⟨rfl, rfl⟩))
          go_ret
          exact ⟨ret_bool (by rw [hgoal.out, HN.out]), hb1.trans (hbr.mono hb1.size)⟩
    · have HN := Lib.hid (all_end A smallOk k hkL hrec.out)
      go_wp2_with fail
      go_ret
      exact ⟨ret_bool (by rw [hgoal.out, HN.out]), hb1.trans (hbr.mono hb1.size)⟩

set_option maxRecDepth 100000 in
set_option maxHeartbeats 2000000 in
theorem validPre_any (s : ByteArray) (hs : s.size ≤ 2147483653) (w : World) :
    Calls Tryd.prog 45 #[.string s] w (BoolPost (vpreB s) w) := by
  go_enter Tryd.func45, Tryd.ntmps45
  go_wp2_with fail
  refine (identifiers_any s (by omega) _).mono ?_
  rintro e w1 ⟨v1, rfl, hown1, hb1⟩
  have hA := cutB_len 46 s
  have HA := Lib.hid (cutB_ne 46 s)
  have SA := Lib.hid (cutB_size 46 s)
  have hgoal : Hid (vpreB s = (cutB 46 s).all preOk) := rfl
  generalize cutB 46 s = A at *
  obtain ⟨gA, capA, rfl, hcA, hmA, hcellA⟩ := own_open hown1 HA
  have hgA : gA < w1.heap.size := (hown1.lt gA rfl).2
  have CA := Lib.hid hcellA
  unfold maxLen at hmA
  clear hown1 hcellA
  go_wp2_with fail
  go_loopw [8] (fun i wr => ∃ k : Nat, k ≤ A.length ∧ i = .int .i64 k ∧ Hid ((A.take k).all preOk = true) ∧ Below w1.heap.size w1 wr) (fun i _ => A.length - (intOf i).toNat)
  case atStart => exact ⟨0, Nat.zero_le _, rfl, by show _ = _; simp, Below.refl _ _⟩
  case round =>
    obtain ⟨k, hk, rfl, hrec, hbr⟩ := hrel
    by_cases hkL : k < A.length
    · obtain ⟨y, HX⟩ : ∃ y, Hid (A.getD k noStr = y) := ⟨_, rfl⟩
      have HSX : y.size ≤ 2147483654 := by rw [← HX.out]; have := SA.out k; omega
      have hca : wr.cell? ⟨gA, k, none⟩ = some (.string y) := by rw [hbr.cell (p := ⟨gA, k, none⟩) hgA, CA.out k (by omega), HX.out]
      have hv := Lib.hid (validIdent_any y HSX wr)
      have hd := Lib.hid (digits_any y HSX wr)
      generalize hb8 : vidB y = b8 at hv
      have HB8 := Lib.hid hb8
      clear hb8
      generalize hb9 : digB y = b9 at hd
      have HB := Lib.hid hb9
      clear hb9
      cases b8 with
      | false =>
        have HN := Lib.hid (all_stop A preOk k y hkL HX.out (by unfold preOk; rw [HB8.out]; rfl))
        clear hrec 
        go_wp2_with (first | (go_at_call 61; refine hv.out.mono ?_; rintro e w' ⟨rfl, rfl⟩) | (go_at_call 56; refine hd.out.mono ?_; rintro e w' ⟨rfl, rfl⟩))
        go_ret
        exact ⟨ret_bool (by rw [hgoal.out, HN.out]), hb1.trans (hbr.mono hb1.size)⟩
      | true =>
        cases b9 with
        | false =>
          have HN := Lib.hid (all_step A preOk k y hkL HX.out (by unfold preOk zeroB; rw [HB8.out, HB.out]; rfl) hrec.out)
          clear hrec 
          go_wp2_with (first | (go_at_call 61; refine hv.out.mono ?_; rintro e w' ⟨rfl, rfl⟩) | (go_at_call 56; refine hd.out.mono ?_; rintro e w' ⟨rfl, rfl⟩))
          go_roundw
          case rel => exact ⟨k + 1, by omega, by go_num, HN, hbr⟩
          case measure => simp [intOf]; omega
        | true =>
          cases hl : decide (1 < y.size) with
          | false =>
            have hl2 : ¬ 1 < y.size := by simpa using hl
            have HL := Lib.hid hl
            clear hl
            have HN := Lib.hid (all_step A preOk k y hkL HX.out (by unfold preOk zeroB; rw [HB8.out, HB.out, HL.out]; rfl) hrec.out)
            clear hrec 
            go_wp2_with (first | (go_at_call 61; refine hv.out.mono ?_; rintro e w' ⟨rfl, rfl⟩) | (go_at_call 56; refine hd.out.mono ?_; rintro e w' ⟨rfl, rfl⟩))
            go_roundw
            case rel => exact ⟨k + 1, by omega, by go_num, HN, hbr⟩
            case measure => simp [intOf]; omega
          | true =>
            have hl2 : 1 < y.size := by simpa using hl
            have HL := Lib.hid hl
            clear hl
            obtain ⟨x, hx⟩ : ∃ x : Int, x = (y[0].toNat : Int) := ⟨_, rfl⟩
            have HI := idxS y 0 (by omega) x hx
            rw [show ((0 : Nat) : Int) = 0 from rfl] at HI
            have HX0 : Hid (byte0 y = x) := by show _ = _; unfold byte0; rw [dif_pos (by omega), hx]
            clear hx
            cases h48 : (x == 48) with
            | true =>
              have H48 := Lib.hid h48
              have HN := Lib.hid (all_stop A preOk k y hkL HX.out (by unfold preOk zeroB; rw [HB8.out, HB.out, HL.out, HX0.out, H48.out]; rfl))
              clear hrec 
              go_wp2_with (first | (go_at_call 61; refine hv.out.mono ?_; rintro e w' ⟨rfl, rfl⟩) | (go_at_call 56; refine hd.out.mono ?_; rintro e w' ⟨rfl, rfl⟩))
              go_ret
              exact ⟨ret_bool (by rw [hgoal.out, HN.out]), hb1.trans (hbr.mono hb1.size)⟩
            | false =>
              have H48 := Lib.hid h48
              have HN := Lib.hid (all_step A preOk k y hkL HX.out (by unfold preOk zeroB; rw [HB8.out, HB.out, HL.out, HX0.out, H48.out]; rfl) hrec.out)
              clear hrec 
              go_wp2_with (first | (go_at_call 61; refine hv.out.mono ?_; rintro e w' ⟨rfl, rfl⟩) | (go_at_call 56; refine hd.out.mono ?_; rintro e w' ⟨rfl, rfl⟩))
              go_roundw
              case rel => exact ⟨k + 1, by omega, by go_num, HN, hbr⟩
              case measure => simp [intOf]; omega
    · have HN := Lib.hid (all_end A preOk k hkL hrec.out)
      go_wp2_with fail
      go_ret
      exact ⟨ret_bool (by rw [hgoal.out, HN.out]), hb1.trans (hbr.mono hb1.size)⟩
end Go.Proofs.YtjlbljajgkiniaaDoor
