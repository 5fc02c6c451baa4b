/- laws.cronLeast; the least times of a day, plain. -/
import Derived.Test.YtpgclepiagfgfaaTsZ
namespace Go.Proofs.Ytpgclepiagfgfaa
open Go.RowKit
set_option linter.unusedVariables false
set_option linter.unusedSimpArgs false

/-- x is the least number of a set from lo to hi, -1 if there is none. -/
def LeastIs (lo hi b : Nat) (x : Int) : Prop := (x = -1 ∧ ∀ i, lo ≤ i → i ≤ hi → b.testBit i = false) ∨ ∃ n : Nat, x = n ∧ lo ≤ n ∧ n ≤ hi ∧ b.testBit n = true ∧ ∀ i, lo ≤ i → i < n → b.testBit i = false
theorem LeastIs.here {lo hi b n : Nat} {x : Int} (h : LeastIs lo hi b x) (h0 : lo ≤ n) (h1 : n ≤ hi) (hb : b.testBit n = true) (hl : ∀ i, lo ≤ i → i < n → b.testBit i = false) : x = n := by
  rcases h with ⟨_, h⟩ | ⟨m, rfl, m0, m1, m2, m3⟩
  · rw [h n h0 h1] at hb; cases hb
  · rcases Nat.lt_trichotomy m n with k | k | k
    · rw [hl m m0 k] at m2; cases m2
    · rw [k]
    · rw [m3 n h0 k] at hb; cases hb
theorem LeastIs.nowhere {lo hi b : Nat} {x : Int} (h : LeastIs lo hi b x) (hl : ∀ i, lo ≤ i → i ≤ hi → b.testBit i = false) : x = -1 := by
  rcases h with ⟨h, _⟩ | ⟨m, rfl, m0, m1, m2, m3⟩
  · exact h
  · rw [hl m m0 m1] at m2; cases m2
theorem fits_same {s : Sched} {u v : Int} (hd : u / 86400 = v / 86400) (h : fits s u = true) (h1 : hoOK s v = true) (h2 : miOK s v = true) (h3 : seOK s v = true) : fits s v = true := by
  unfold fits at h ⊢
  have e : dayN v = dayN u := by unfold dayN; omega
  have e1 : moOK s v = moOK s u := by unfold moOK; rw [e]
  have e2 : dyOK s v = dyOK s u := by unfold dyOK; rw [e]
  rw [e1, e2, h1, h2, h3]
  simp only [Bool.and_eq_true] at h ⊢
  exact ⟨⟨⟨⟨h.1.1.1.1, h.1.1.1.2⟩, trivial⟩, trivial⟩, trivial⟩
theorem fits_parts {s : Sched} {u : Int} (h : fits s u = true) : hoOK s u = true ∧ miOK s u = true ∧ seOK s u = true := by
  unfold fits at h
  simp only [Bool.and_eq_true] at h
  exact ⟨h.1.1.2, h.1.2, h.2⟩
theorem least_hour {s : Sched} {F r : Int} (hr : fits s r = true) (hn : NoFit s F r) (hd : F / 86400 < r / 86400) : LeastIs 0 23 s.ho (r % 86400 / 3600) := by
  obtain ⟨p1, p2, p3⟩ := fits_parts hr
  refine .inr ⟨(r % 86400 / 3600).toNat, by omega, by omega, by omega, p1, fun i _ hi => ?_⟩
  cases hb : s.ho.testBit i with
  | false => rfl
  | true =>
    exfalso
    obtain ⟨v, hv⟩ : ∃ v : Int, v = 86400 * (r / 86400) + 3600 * i + r % 3600 := ⟨_, rfl⟩
    have a0 : v / 86400 = r / 86400 := by omega
    have a1 : (v % 86400 / 3600).toNat = i := by omega
    have a2 : v % 3600 = r % 3600 := by omega
    have a3 : v % 60 = r % 60 := by omega
    have k := hn v (by omega) (by omega)
    rw [fits_same (u := r) (v := v) a0.symm hr (by unfold hoOK; rw [a1]; exact hb) (by unfold miOK at p2 ⊢; rw [a2]; exact p2) (by unfold seOK at p3 ⊢; rw [a3]; exact p3)] at k
    cases k
theorem least_minute {s : Sched} {F r : Int} (hr : fits s r = true) (hn : NoFit s F r) (hd : F / 3600 < r / 3600) : LeastIs 0 59 s.mi (r % 3600 / 60) := by
  obtain ⟨p1, p2, p3⟩ := fits_parts hr
  refine .inr ⟨(r % 3600 / 60).toNat, by omega, by omega, by omega, p2, fun i _ hi => ?_⟩
  cases hb : s.mi.testBit i with
  | false => rfl
  | true =>
    exfalso
    obtain ⟨v, hv⟩ : ∃ v : Int, v = 3600 * (r / 3600) + 60 * i + r % 60 := ⟨_, rfl⟩
    have a0 : v / 86400 = r / 86400 := by omega
    have a1 : v % 86400 / 3600 = r % 86400 / 3600 := by omega
    have a2 : (v % 3600 / 60).toNat = i := by omega
    have a3 : v % 60 = r % 60 := by omega
    have k := hn v (by omega) (by omega)
    rw [fits_same (u := r) (v := v) a0.symm hr (by unfold hoOK at p1 ⊢; rw [a1]; exact p1) (by unfold miOK; rw [a2]; exact hb) (by unfold seOK at p3 ⊢; rw [a3]; exact p3)] at k
    cases k
theorem least_second {s : Sched} {F r : Int} (hr : fits s r = true) (hn : NoFit s F r) (hd : F / 60 < r / 60) : LeastIs 0 59 s.se (r % 60) := by
  obtain ⟨p1, p2, p3⟩ := fits_parts hr
  refine .inr ⟨(r % 60).toNat, by omega, by omega, by omega, p3, fun i _ hi => ?_⟩
  cases hb : s.se.testBit i with
  | false => rfl
  | true =>
    exfalso
    obtain ⟨v, hv⟩ : ∃ v : Int, v = 60 * (r / 60) + i := ⟨_, rfl⟩
    have a0 : v / 86400 = r / 86400 := by omega
    have a1 : v % 86400 / 3600 = r % 86400 / 3600 := by omega
    have a2 : v % 3600 / 60 = r % 3600 / 60 := by omega
    have a3 : (v % 60).toNat = i := by omega
    have k := hn v (by omega) (by omega)
    rw [fits_same (u := r) (v := v) a0.symm hr (by unfold hoOK at p1 ⊢; rw [a1]; exact p1) (by unfold miOK at p2 ⊢; rw [a2]; exact p2) (by unfold seOK; rw [a3]; exact hb)] at k
    cases k
set_option maxRecDepth 100000 in
set_option maxHeartbeats 4000000 in
theorem least_fix (k : Int) (lo hi : Nat) (hl : lo ≤ hi) (hh : hi ≤ 62) (HL : Hid (NumIs 46 k lo)) (HH : Hid (NumIs 47 k hi)) (b : Nat) (hb : b < 18446744073709551616) (X : Int) (hX : Hid (LeastIs lo hi b X)) (w : World) :
    Calls Try.prog 23 #[.int .i64 k, .int .u64 b] w fun e w' => e = .returned (.int .i64 X) ∧ w = w' := by
  go_enter Try.func23, Try.ntmps23
  go_wp2_with fail
  refine (HL.out _).mono ?_
  rintro e w' ⟨rfl, rfl⟩
  go_wp2_with fail
  go_loopw [5] (fun v wr => ∃ n : Nat, lo ≤ n ∧ n ≤ hi + 1 ∧ v = .int .i64 n ∧ wr = w ∧ Hid (∀ i, lo ≤ i → i < n → b.testBit i = false)) (fun v _ => hi + 1 - (intOf v).toNat)
  case atStart => exact ⟨lo, Nat.le_refl _, by omega, rfl, rfl, Lib.hid (fun i h1 h2 => by omega)⟩
  case round =>
    obtain ⟨n, hn1, hn2, rfl, rfl, hall⟩ := hrel
    go_wp2_with fail
    refine (HH.out _).mono ?_
    rintro e w' ⟨rfl, rfl⟩
    by_cases hlt : n ≤ hi
    · have hv := shrBit b n hb
      obtain ⟨v, Hv⟩ : ∃ v, Hid (b.testBit n = v) := ⟨_, rfl⟩
      rw [Hv.out] at hv
      cases v with
      | true =>
        have e := hX.out.here hn1 hlt Hv.out hall.out
        go_wp2_with fail
        go_ret
        exact ⟨ret_i64 e.symm, rfl⟩
      | false =>
        go_wp2_with fail
        go_roundw
        case rel =>
          refine ⟨n + 1, by omega, by omega, by go_num, by trivial, Lib.hid (fun i h1 h2 => ?_)⟩
          by_cases e : i = n
          · subst e; exact Hv.out
          · exact hall.out i h1 (by omega)
        case measure => simp [intOf]; omega
    · have e := hX.out.nowhere (fun i h1 h2 => hall.out i h1 (by omega))
      go_wp2_with fail
      go_ret
      exact ⟨ret_i64 e.symm, rfl⟩

end Go.Proofs.Ytpgclepiagfgfaa
