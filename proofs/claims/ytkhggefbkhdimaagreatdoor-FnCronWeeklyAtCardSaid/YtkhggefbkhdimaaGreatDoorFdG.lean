/- spec.CronValue. -/
import Derived.Test.YtkhggefbkhdimaaGreatDoorGFa
namespace Go.Proofs.YtkhggefbkhdimaaGreatDoor
open Go.RowKit
set_option linter.unusedVariables false
set_option linter.unusedSimpArgs false

def upL (t : List UInt8) : List Nat := t.map (fun c => upN c.toNat)
theorem nameIx_some (k : Nat) (t : List UInt8) (j : Nat) (hj : j < (namesU k).length) (h0 : ∀ i, (h : i < (namesU k).length) → i < j → (upL t == (namesU k)[i]) = false) (h : (upL t == (namesU k)[j]) = true) : nameIx k t = some j := by
  unfold nameIx
  refine List.findIdx?_eq_some_iff_getElem.2 ⟨hj, h, fun i hi => ?_⟩
  have := h0 i (by omega) hi
  unfold upL at this
  rw [this]
  simp
theorem nameIx_none (k : Nat) (t : List UInt8) (h : ∀ i, (h : i < (namesU k).length) → (upL t == (namesU k)[i]) = false) : nameIx k t = none := by
  unfold nameIx
  rw [List.findIdx?_eq_none_iff]
  intro N hN
  obtain ⟨i, hi, rfl⟩ := List.mem_iff_getElem.1 hN
  exact h i hi
theorem valS_num (k : Nat) (hk : ¬(k = 4 ∨ k = 5)) (t : List UInt8) : valS k t = cnum t := by
  have hn : nameIx k t = none := by
    refine nameIx_none k t (fun i hi => ?_)
    unfold namesU at hi
    rw [if_neg (fun e => hk (Or.inl e)), if_neg (fun e => hk (Or.inr e))] at hi
    simp at hi
  unfold valS
  rw [hn]
  dsimp only
  rw [if_neg (fun h => hk h.1)]
def ValPost (p : Nat × Nat) (w : World) (e : Ending) (w' : World) : Prop := e = .returned (.tuple #[.int .i64 (p.1 : Nat), .int .i64 (p.2 : Nat)]) ∧ Below w.heap.size w w'
set_option maxHeartbeats 1000000 in
theorem value_0 (t : ByteArray) (ht : t.size ≤ 2147483654) (w : World) : Calls Tryz.prog 164 #[.int .i64 0, .string t] w (ValPost (valS 0 t.data.toList) w) := by
  rw [valS_num 0 (by decide)]
  go_enter Tryz.func164, Tryz.ntmps164
  go_wp2_with (first | (go_at_call 165; refine (number_any t ht _).mono ?_; rintro e w' ⟨rfl, rfl⟩))
  go_ret2
  exact ⟨rfl, Below.refl _ _⟩
set_option maxHeartbeats 1000000 in
theorem value_1 (t : ByteArray) (ht : t.size ≤ 2147483654) (w : World) : Calls Tryz.prog 164 #[.int .i64 1, .string t] w (ValPost (valS 1 t.data.toList) w) := by
  rw [valS_num 1 (by decide)]
  go_enter Tryz.func164, Tryz.ntmps164
  go_wp2_with (first | (go_at_call 165; refine (number_any t ht _).mono ?_; rintro e w' ⟨rfl, rfl⟩))
  go_ret2
  exact ⟨rfl, Below.refl _ _⟩
set_option maxHeartbeats 1000000 in
theorem value_2 (t : ByteArray) (ht : t.size ≤ 2147483654) (w : World) : Calls Tryz.prog 164 #[.int .i64 2, .string t] w (ValPost (valS 2 t.data.toList) w) := by
  rw [valS_num 2 (by decide)]
  go_enter Tryz.func164, Tryz.ntmps164
  go_wp2_with (first | (go_at_call 165; refine (number_any t ht _).mono ?_; rintro e w' ⟨rfl, rfl⟩))
  go_ret2
  exact ⟨rfl, Below.refl _ _⟩
set_option maxHeartbeats 1000000 in
theorem value_3 (t : ByteArray) (ht : t.size ≤ 2147483654) (w : World) : Calls Tryz.prog 164 #[.int .i64 3, .string t] w (ValPost (valS 3 t.data.toList) w) := by
  rw [valS_num 3 (by decide)]
  go_enter Tryz.func164, Tryz.ntmps164
  go_wp2_with (first | (go_at_call 165; refine (number_any t ht _).mono ?_; rintro e w' ⟨rfl, rfl⟩))
  go_ret2
  exact ⟨rfl, Below.refl _ _⟩
theorem sameM (v : Nat) (h1 : 1 ≤ v) (h2 : v ≤ 12) (t : ByteArray) (hj : v - 1 < (namesU 4).length) : sameB (txtM.extract (3 * v) (3 * v + 3)) t = (upL t.data.toList == (namesU 4)[v - 1]) := by
  have e : (txtM.extract (3 * v) (3 * v + 3)).data.toList.map (fun c => upN c.toNat) = (namesU 4)[v - 1] := by
    rw [Lib.extract_data]
    have hv : v = 1 ∨ v = 2 ∨ v = 3 ∨ v = 4 ∨ v = 5 ∨ v = 6 ∨ v = 7 ∨ v = 8 ∨ v = 9 ∨ v = 10 ∨ v = 11 ∨ v = 12 := by omega
    rcases hv with rfl | rfl | rfl | rfl | rfl | rfl | rfl | rfl | rfl | rfl | rfl | rfl <;> rfl
  unfold sameB upL
  rw [e, Bool.beq_comm]
theorem lenM : (namesU 4).length = 12 := rfl
set_option maxRecDepth 100000 in
set_option maxHeartbeats 4000000 in
theorem value_4 (t : ByteArray) (ht : t.size ≤ 2147483654) (w : World) : Calls Tryz.prog 164 #[.int .i64 4, .string t] w (ValPost (valS 4 t.data.toList) w) := by
  go_enter Tryz.func164, Tryz.ntmps164
  go_wp2_with (first | (go_at_call 26; refine (lowM _).mono ?_; rintro e w' ⟨rfl, rfl⟩))
  go_loopw [7] (fun v wr => ∃ n : Nat, 1 ≤ n ∧ n ≤ 12 + 1 ∧ v = .int .i64 n ∧ Hid (∀ i, (h : i < (namesU 4).length) → i < n - 1 → (upL t.data.toList == (namesU 4)[i]) = false) ∧ Below w'.heap.size w' wr) (fun v _ => 12 + 1 - (intOf v).toNat)
  case atStart => exact ⟨1, by omega, by omega, rfl, fun i _ h => absurd h (by omega), Below.refl _ _⟩
  case round =>
    obtain ⟨n, hn1, hn2, rfl, hf, hb⟩ := hrel
    by_cases hlt : n ≤ 12
    · have q1 : decide ((n : Int) ≤ 12) = true := decide_eq_true (by omega)
      have hj : n - 1 < (namesU 4).length := by rw [lenM]; omega
      have HS := Lib.hid (sameM n hn1 hlt t hj)
      have HJ := Lib.hid hj
      have hsz : (txtM.extract (3 * n) (3 * n + 3)).size ≤ 2147483654 := by
        rw [ByteArray.size_extract]; have : txtM.size = 39 := rfl; omega
      have HZ := Lib.hid hsz
      clear hsz
      cases hc : sameB (txtM.extract (3 * n) (3 * n + 3)) t with
      | true =>
        have HN : Hid (valS 4 t.data.toList = (n, 1)) := Lib.hid (by
          have h := nameIx_some 4 t.data.toList (n - 1) HJ.out hf.out (by rw [← HS.out]; exact hc)
          unfold valS
          rw [h]
          dsimp only
          rw [show loK 4 = 1 from rfl, show n - 1 + 1 = n by omega])
        have HC := Lib.hid hc
        clear hc
        go_wp2_with (first | (go_at_call 53; refine (highM _).mono ?_; rintro e w' ⟨rfl, rfl⟩) | (go_at_call 143; refine (nameM n hn1 hlt _).mono ?_; rintro e w2 ⟨rfl, hb2⟩; have HB2 := Lib.hid hb2; clear hb2) | (go_at_call 168; refine (same_any _ _ HZ.out _).mono ?_; rintro e w3 ⟨rfl, hb3⟩; rw [HC.out]; have HB3 := Lib.hid hb3; clear hb3))
        go_ret2
        exact ⟨by rw [HN.out]; rfl, hb.trans (HB2.out.trans (HB3.out.mono HB2.out.size) |>.mono hb.size)⟩
      | false =>
        have HN : Hid (∀ i, (h : i < (namesU 4).length) → i < n + 1 - 1 → (upL t.data.toList == (namesU 4)[i]) = false) := Lib.hid (fun i h h2 => by
          rcases Nat.lt_or_ge i (n - 1) with c | c
          · exact hf.out i h c
          · have e : i = n - 1 := by omega
            have h9 := HS.out
            rw [hc] at h9
            simp only [e]
            exact h9.symm)
        have HC := Lib.hid hc
        clear hc
        go_wp2_with (first | (go_at_call 53; refine (highM _).mono ?_; rintro e w' ⟨rfl, rfl⟩) | (go_at_call 143; refine (nameM n hn1 hlt _).mono ?_; rintro e w2 ⟨rfl, hb2⟩; have HB2 := Lib.hid hb2; clear hb2) | (go_at_call 168; refine (same_any _ _ HZ.out _).mono ?_; rintro e w3 ⟨rfl, hb3⟩; rw [HC.out]; have HB3 := Lib.hid hb3; clear hb3))
        go_roundw
        case rel => exact ⟨n + 1, by omega, by omega, by go_num, HN, hb.trans (HB2.out.trans (HB3.out.mono HB2.out.size) |>.mono hb.size)⟩
        case measure => simp [intOf]; omega
    · have q1 : decide ((n : Int) ≤ 12) = false := decide_eq_false (by omega)
      have HN : Hid (nameIx 4 t.data.toList = none) := Lib.hid (nameIx_none 4 _ (fun i h => hf.out i h (by rw [lenM] at h; omega)))
      cases ha : asciiB t.data.toList with
      | false =>
        have HV : Hid (valS 4 t.data.toList = (0, 2)) := Lib.hid (by
          unfold valS
          rw [HN.out]
          dsimp only
          rw [if_pos ⟨by decide, ha⟩])
        have HA := Lib.hid ha
        clear ha
        go_wp2_with (first | (go_at_call 53; refine (highM _).mono ?_; rintro e w' ⟨rfl, rfl⟩) | (go_at_call 83; refine (foreign_any t ht _).mono ?_; rintro e w' ⟨rfl, rfl⟩; rw [HA.out]))
        go_ret2
        exact ⟨by rw [HV.out]; rfl, hb⟩
      | true =>
        have HV : Hid (valS 4 t.data.toList = cnum t.data.toList) := Lib.hid (by
          unfold valS
          rw [HN.out]
          dsimp only
          rw [if_neg (fun h => by rw [ha] at h; cases h.2)])
        have HA := Lib.hid ha
        clear ha
        go_wp2_with (first | (go_at_call 53; refine (highM _).mono ?_; rintro e w' ⟨rfl, rfl⟩) | (go_at_call 83; refine (foreign_any t ht _).mono ?_; rintro e w' ⟨rfl, rfl⟩; rw [HA.out]) | (go_at_call 165; refine (number_any t ht _).mono ?_; rintro e w' ⟨rfl, rfl⟩))
        go_ret2
        exact ⟨by rw [HV.out]; rfl, hb⟩
theorem sameD (v : Nat) (h1 : 0 ≤ v) (h2 : v ≤ 6) (t : ByteArray) (hj : v - 0 < (namesU 5).length) : sameB (txtD.extract (3 * v) (3 * v + 3)) t = (upL t.data.toList == (namesU 5)[v - 0]) := by
  have e : (txtD.extract (3 * v) (3 * v + 3)).data.toList.map (fun c => upN c.toNat) = (namesU 5)[v - 0] := by
    rw [Lib.extract_data]
    have hv : v = 0 ∨ v = 1 ∨ v = 2 ∨ v = 3 ∨ v = 4 ∨ v = 5 ∨ v = 6 := by omega
    rcases hv with rfl | rfl | rfl | rfl | rfl | rfl | rfl <;> rfl
  unfold sameB upL
  rw [e, Bool.beq_comm]
theorem lenD : (namesU 5).length = 7 := rfl
set_option maxRecDepth 100000 in
set_option maxHeartbeats 4000000 in
theorem value_5 (t : ByteArray) (ht : t.size ≤ 2147483654) (w : World) : Calls Tryz.prog 164 #[.int .i64 5, .string t] w (ValPost (valS 5 t.data.toList) w) := by
  go_enter Tryz.func164, Tryz.ntmps164
  go_wp2_with (first | (go_at_call 26; refine (lowD _).mono ?_; rintro e w' ⟨rfl, rfl⟩))
  go_loopw [7] (fun v wr => ∃ n : Nat, 0 ≤ n ∧ n ≤ 6 + 1 ∧ v = .int .i64 n ∧ Hid (∀ i, (h : i < (namesU 5).length) → i < n - 0 → (upL t.data.toList == (namesU 5)[i]) = false) ∧ Below w'.heap.size w' wr) (fun v _ => 6 + 1 - (intOf v).toNat)
  case atStart => exact ⟨0, by omega, by omega, rfl, fun i _ h => absurd h (by omega), Below.refl _ _⟩
  case round =>
    obtain ⟨n, hn1, hn2, rfl, hf, hb⟩ := hrel
    by_cases hlt : n ≤ 6
    · have q1 : decide ((n : Int) ≤ 6) = true := decide_eq_true (by omega)
      have hj : n - 0 < (namesU 5).length := by rw [lenD]; omega
      have HS := Lib.hid (sameD n hn1 hlt t hj)
      have HJ := Lib.hid hj
      have hsz : (txtD.extract (3 * n) (3 * n + 3)).size ≤ 2147483654 := by
        rw [ByteArray.size_extract]; have : txtD.size = 21 := rfl; omega
      have HZ := Lib.hid hsz
      clear hsz
      cases hc : sameB (txtD.extract (3 * n) (3 * n + 3)) t with
      | true =>
        have HN : Hid (valS 5 t.data.toList = (n, 1)) := Lib.hid (by
          have h := nameIx_some 5 t.data.toList (n - 0) HJ.out hf.out (by rw [← HS.out]; exact hc)
          unfold valS
          rw [h]
          dsimp only
          rw [show loK 5 = 0 from rfl, show n - 0 + 0 = n by omega])
        have HC := Lib.hid hc
        clear hc
        go_wp2_with (first | (go_at_call 53; refine (highD _).mono ?_; rintro e w' ⟨rfl, rfl⟩) | (go_at_call 143; refine (nameD n hn1 hlt _).mono ?_; rintro e w2 ⟨rfl, hb2⟩; have HB2 := Lib.hid hb2; clear hb2) | (go_at_call 168; refine (same_any _ _ HZ.out _).mono ?_; rintro e w3 ⟨rfl, hb3⟩; rw [HC.out]; have HB3 := Lib.hid hb3; clear hb3))
        go_ret2
        exact ⟨by rw [HN.out]; rfl, hb.trans (HB2.out.trans (HB3.out.mono HB2.out.size) |>.mono hb.size)⟩
      | false =>
        have HN : Hid (∀ i, (h : i < (namesU 5).length) → i < n + 1 - 0 → (upL t.data.toList == (namesU 5)[i]) = false) := Lib.hid (fun i h h2 => by
          rcases Nat.lt_or_ge i (n - 0) with c | c
          · exact hf.out i h c
          · have e : i = n - 0 := by omega
            have h9 := HS.out
            rw [hc] at h9
            simp only [e]
            exact h9.symm)
        have HC := Lib.hid hc
        clear hc
        go_wp2_with (first | (go_at_call 53; refine (highD _).mono ?_; rintro e w' ⟨rfl, rfl⟩) | (go_at_call 143; refine (nameD n hn1 hlt _).mono ?_; rintro e w2 ⟨rfl, hb2⟩; have HB2 := Lib.hid hb2; clear hb2) | (go_at_call 168; refine (same_any _ _ HZ.out _).mono ?_; rintro e w3 ⟨rfl, hb3⟩; rw [HC.out]; have HB3 := Lib.hid hb3; clear hb3))
        go_roundw
        case rel => exact ⟨n + 1, by omega, by omega, by go_num, HN, hb.trans (HB2.out.trans (HB3.out.mono HB2.out.size) |>.mono hb.size)⟩
        case measure => simp [intOf]; omega
    · have q1 : decide ((n : Int) ≤ 6) = false := decide_eq_false (by omega)
      have HN : Hid (nameIx 5 t.data.toList = none) := Lib.hid (nameIx_none 5 _ (fun i h => hf.out i h (by rw [lenD] at h; omega)))
      cases ha : asciiB t.data.toList with
      | false =>
        have HV : Hid (valS 5 t.data.toList = (0, 2)) := Lib.hid (by
          unfold valS
          rw [HN.out]
          dsimp only
          rw [if_pos ⟨by decide, ha⟩])
        have HA := Lib.hid ha
        clear ha
        go_wp2_with (first | (go_at_call 53; refine (highD _).mono ?_; rintro e w' ⟨rfl, rfl⟩) | (go_at_call 83; refine (foreign_any t ht _).mono ?_; rintro e w' ⟨rfl, rfl⟩; rw [HA.out]))
        go_ret2
        exact ⟨by rw [HV.out]; rfl, hb⟩
      | true =>
        have HV : Hid (valS 5 t.data.toList = cnum t.data.toList) := Lib.hid (by
          unfold valS
          rw [HN.out]
          dsimp only
          rw [if_neg (fun h => by rw [ha] at h; cases h.2)])
        have HA := Lib.hid ha
        clear ha
        go_wp2_with (first | (go_at_call 53; refine (highD _).mono ?_; rintro e w' ⟨rfl, rfl⟩) | (go_at_call 83; refine (foreign_any t ht _).mono ?_; rintro e w' ⟨rfl, rfl⟩; rw [HA.out]) | (go_at_call 165; refine (number_any t ht _).mono ?_; rintro e w' ⟨rfl, rfl⟩))
        go_ret2
        exact ⟨by rw [HV.out]; rfl, hb⟩
theorem value_any (k : Nat) (hk : k < 6) (t : ByteArray) (ht : t.size ≤ 2147483654) (w : World) : Calls Tryz.prog 164 #[.int .i64 k, .string t] w (ValPost (valS k t.data.toList) w) := by
  have h : k = 0 ∨ k = 1 ∨ k = 2 ∨ k = 3 ∨ k = 4 ∨ k = 5 := by omega
  rcases h with rfl | rfl | rfl | rfl | rfl | rfl
  · exact value_0 t ht w
  · exact value_1 t ht w
  · exact value_2 t ht w
  · exact value_3 t ht w
  · exact value_4 t ht w
  · exact value_5 t ht w
end Go.Proofs.YtkhggefbkhdimaaGreatDoor
