/- spec.cronEnds and spec.CronItem, whatever the text. -/
import Derived.Test.YtkhggefbkhdimaaGreatDoorFdJB
import Derived.Test.YtkhggefbkhdimaaGreatDoorFdJC
namespace Go.Proofs.YtkhggefbkhdimaaGreatDoor
open Go.RowKit
set_option linter.unusedVariables false
set_option linter.unusedSimpArgs false

def mkB (l : List UInt8) : ByteArray := ⟨l.toArray⟩
theorem mkB_data (l : List UInt8) : (mkB l).data.toList = l := by simp [mkB]
theorem mkB_list (l : List UInt8) : (mkB l).toList = l := by rw [ByteArray.toList_eq, mkB_data]
theorem mkB_size (l : List UInt8) : (mkB l).size = l.length := by rw [← str_len, mkB_data]
theorem cutB_mk (c : Int) (t : ByteArray) : cutB c t = (cutL c t.data.toList).map mkB := rfl
theorem cutL_mem_len (c : Int) : ∀ (l p : List UInt8), p ∈ cutL c l → p.length ≤ l.length
  | [], p, h => by
    simp only [cutL, List.mem_singleton] at h
    subst h
    exact Nat.le_refl _
  | x :: xs, p, h => by
    unfold cutL at h
    split at h
    · rcases List.mem_cons.1 h with rfl | h
      · simp
      · have := cutL_mem_len c xs p h
        simp only [List.length_cons]; omega
    · cases hc : cutL c xs with
      | nil => exact absurd hc (cutL_ne _ _)
      | cons y ys =>
        rw [hc] at h
        dsimp only at h
        have hm := cutL_mem_len c xs
        rw [hc] at hm
        rcases List.mem_cons.1 h with rfl | h
        · have := hm y (by simp)
          simp only [List.length_cons]; omega
        · have := hm p (by simp [h])
          simp only [List.length_cons]; omega
theorem tl_eq (l m : List UInt8) (h : l = m) : ((mkB l).toList == m) = true := by rw [mkB_list, h]; simp
theorem tl_ne (l m : List UInt8) (h : l ≠ m) : ((mkB l).toList == m) = false := by rw [mkB_list]; simpa using h
def daysB (k : Nat) : Bool := decide (k = 3 ∨ k = 5)
def endsK (k : Nat) (l : List UInt8) : Ends × Nat := endsS (loK k) (hiK k) (daysB k) (valS k) l
theorem valS_v (k : Nat) (t : List UInt8) : (valS k t).2 ≤ 2 := by
  unfold valS
  split
  · exact (by decide : 1 ≤ 2)
  · split
    · exact Nat.le_refl 2
    · exact cnum_v t
theorem valIs (k : Nat) (hk : k < 6) (l : List UInt8) (hl : l.length ≤ 2147483654) : ValIs k (mkB l) (valS k l) := by
  intro W
  have := value_any k hk (mkB l) (by rw [mkB_size]; exact hl) W
  rw [mkB_data] at this
  exact this
theorem ends_any (k : Nat) (hk : k < 6) (l : List UInt8) (hl : l.length ≤ 2147483654) : EndsIs (loK k) (hiK k) k (mkB l) (endsK k l).1.low (endsK k l).1.high (endsK k l).1.star (endsK k l).1.single (endsK k l).2 := by
  intro W
  have hs : (mkB l).size ≤ 2147483654 := by rw [mkB_size]; exact hl
  have hm := cutL_mem_len 45 l
  have hB : cutB 45 (mkB l) = (cutL 45 l).map mkB := by rw [cutB_mk, mkB_data]
  unfold endsK endsS
  cases hc : cutL 45 l with
  | nil => exact absurd hc (cutL_ne _ _)
  | cons e0 es =>
    rw [hc] at hm hB
    have h0 : e0.length ≤ 2147483654 := by have := hm e0 (by simp); omega
    dsimp only
    by_cases h42 : e0 = [42]
    · rw [if_pos (Or.inl h42)]
      have s1 := tl_eq e0 [42] h42
      cases es with
      | nil =>
        have : ¬([] : List (List UInt8)).isEmpty = false := by simp
        have h63 : ¬ e0 = [63] := by rw [h42]; decide
        rw [if_neg (fun h => h.elim this (fun h => h63 h.1))]
        exact ends_1 k _ _ _ hs (mkB e0) (Lib.hid hB) s1 W
      | cons e1 er =>
        rw [if_pos (Or.inl (show (e1 :: er).isEmpty = false from rfl))]
        exact ends_2 k _ _ _ hs (mkB e0) (mkB e1) (er.map mkB) (Lib.hid hB) (Or.inl s1) W
    · have s1 := tl_ne e0 [42] h42
      by_cases h63 : e0 = [63]
      · rw [if_pos (Or.inr h63)]
        have s2 := tl_eq e0 [63] h63
        cases es with
        | nil =>
          have hne : ¬([] : List (List UInt8)).isEmpty = false := by simp
          by_cases h3 : k = 3
          · subst h3
            rw [if_neg (fun h => h.elim hne (fun h => by cases h.2))]
            exact ends_3 _ _ _ hs (mkB e0) (Lib.hid hB) s1 s2 W
          · by_cases h5 : k = 5
            · subst h5
              rw [if_neg (fun h => h.elim hne (fun h => by cases h.2))]
              exact ends_4 _ _ _ hs (mkB e0) (Lib.hid hB) s1 s2 W
            · have hd : daysB k = false := by unfold daysB; simp [h3, h5]
              rw [if_pos (Or.inr ⟨h63, hd⟩)]
              exact ends_5 k _ _ _ hs (mkB e0) (Lib.hid hB) s1 s2 h3 h5 W
        | cons e1 er =>
          rw [if_pos (Or.inl (show (e1 :: er).isEmpty = false from rfl))]
          exact ends_2 k _ _ _ hs (mkB e0) (mkB e1) (er.map mkB) (Lib.hid hB) (Or.inr ⟨s1, s2⟩) W
      · rw [if_neg (fun h => h.elim h42 h63)]
        have s2 := tl_ne e0 [63] h63
        have hv0 := valIs k hk e0 h0
        match es, hm, hB with
        | [], hm, hB => exact ends_6 k _ _ _ hs (mkB e0) (Lib.hid hB) s1 s2 _ _ (Lib.hid hv0) W
        | [e1], hm, hB =>
          have h1 : e1.length ≤ 2147483654 := by have := hm e1 (by simp); omega
          exact ends_7 k _ _ _ hs (mkB e0) (mkB e1) (Lib.hid hB) s1 s2 _ _ _ _ (valS_v _ _) (valS_v _ _) (Lib.hid hv0) (Lib.hid (valIs k hk e1 h1)) W
        | e1 :: e2 :: er, hm, hB => exact ends_8 k _ _ _ hs (mkB e0) (mkB e1) (mkB e2) (er.map mkB) (Lib.hid hB) s1 s2 _ _ (Lib.hid hv0) W
def itemK (k : Nat) (l : List UInt8) : Nat × Item := itemS (loK k) (hiK k) (daysB k) (valS k) l
def itemF (p : Nat × Item) : Nat → Bool := fun x => decide (p.1 = 1) && steps p.2.low p.2.high p.2.step x
def itemB (p : Nat × Item) : Bool := decide (p.1 = 1) && p.2.star
theorem setV_bad (p : Nat × Item) (v : Nat) (h : p.1 = v) (hv : v ≠ 1) {w : World} {e : Ending} {w' : World} (hq : SetV false noneB v w e w') : SetV (itemB p) (itemF p) p.1 w e w' := by
  have e1 : itemB p = false := by unfold itemB; rw [h]; simp [hv]
  have e2 : itemF p = noneB := by funext x; unfold itemF noneB; rw [h]; simp [hv]
  rw [e1, e2, h]
  exact hq
theorem setV_good (p : Nat × Item) (a b s : Nat) (st : Bool) (h : p = (1, ⟨a, b, s, st⟩)) {w : World} {e : Ending} {w' : World} (hq : SetV st (steps a b s) 1 w e w') : SetV (itemB p) (itemF p) p.1 w e w' := by
  subst h
  have e2 : itemF (1, ⟨a, b, s, st⟩) = steps a b s := by funext x; unfold itemF; simp
  have e1 : itemB (1, ⟨a, b, s, st⟩) = st := by unfold itemB; simp
  rw [e1, e2]
  exact hq
theorem fin_bad (lo hi : Nat) (two : Bool) (E : Ends × Nat) (k : Nat × Nat) (h : worseN E.2 k.2 ≠ 1) : finS lo hi two E k = (worseN E.2 k.2, ⟨0, 0, 0, false⟩) := by
  unfold finS
  dsimp only
  rw [if_pos h]
theorem fin_out (lo hi : Nat) (two : Bool) (E : Ends × Nat) (k : Nat × Nat) (H : Nat) (hH : H = if (two && E.1.single && !E.1.star) = true then hi else E.1.high) (h : worseN E.2 k.2 = 1) (hb : E.1.low < lo ∨ hi < H ∨ H < E.1.low) : finS lo hi two E k = (0, ⟨0, 0, 0, false⟩) := by
  unfold finS
  dsimp only
  rw [if_neg (fun e => e h), ← hH, if_pos hb]
theorem fin_good (lo hi : Nat) (two : Bool) (E : Ends × Nat) (k : Nat × Nat) (H : Nat) (hH : H = if (two && E.1.single && !E.1.star) = true then hi else E.1.high) (h : worseN E.2 k.2 = 1) (hb : ¬(E.1.low < lo ∨ hi < H ∨ H < E.1.low)) : finS lo hi two E k = (1, ⟨E.1.low, H, k.1, E.1.star && decide (k.1 = 1)⟩) := by
  unfold finS
  dsimp only
  rw [if_neg (fun e => e h), ← hH, if_neg hb]
theorem worse_v1 (a : Nat) (h : a ≤ 2) : worseN a 1 = a := by
  unfold worseN
  split <;> omega
theorem endsK_le (k : Nat) (l : List UInt8) : (endsK k l).2 ≤ 2 := by
  unfold endsK endsS
  split
  · exact Nat.zero_le _
  · split
    · dsimp only; split <;> omega
    · split
      · exact valS_v _ _
      · exact worse_le (valS_v _ _) (valS_v _ _)
      · exact Nat.zero_le _
/-- spec.CronItem. -/
theorem item_any (k : Nat) (hk : k < 6) (l : List UInt8) (hl : l.length ≤ 2147483654) (w : World) :
    Calls Tryz.prog 148 #[.agg #[.int .i64 (loK k : Nat), .int .i64 (hiK k : Nat), .int .i64 k], .string (mkB l)] w (SetV (itemB (itemK k l)) (itemF (itemK k l)) (itemK k l).1 w) := by
  have hs : (mkB l).size ≤ 2147483654 := by rw [mkB_size]; exact hl
  have hm := cutL_mem_len 47 l
  have hB : cutB 47 (mkB l) = (cutL 47 l).map mkB := by rw [cutB_mk, mkB_data]
  have hhi : hiK k ≤ 62 := by have := (loK_hiK k).2; omega
  match hc : cutL 47 l with
  | [] => exact absurd hc (cutL_ne _ _)
  | [p0] =>
    rw [hc] at hm hB
    have hI : itemK k l = finS (loK k) (hiK k) false (endsK k p0) (1, 1) := by unfold itemK itemS; rw [hc]; rfl
    have hE := ends_any k hk p0 (by have := hm p0 (by simp); omega)
    have hv2 := endsK_le k p0
    generalize endsK k p0 = E at hI hE hv2
    by_cases hw : worseN E.2 1 ≠ 1
    · have e := fin_bad (loK k) (hiK k) false E (1, 1) hw
      rw [← hI] at e
      rw [worse_v1 _ hv2] at e hw
      exact (item_1v k _ _ _ hs (mkB p0) (Lib.hid hB) _ _ _ _ _ (Lib.hid hE) hw w).mono (fun _ _ h => setV_bad _ _ (by rw [e]) hw h)
    · have hw1 : worseN E.2 1 = 1 := by omega
      have hE1 : E.2 = 1 := by rw [worse_v1 _ hv2] at hw1; exact hw1
      rw [hE1] at hE
      by_cases hb : E.1.low < loK k ∨ hiK k < E.1.high ∨ E.1.high < E.1.low
      · have e := fin_out (loK k) (hiK k) false E (1, 1) E.1.high (by simp) hw1 hb
        rw [← hI] at e
        exact (item_1b k _ _ _ hs (mkB p0) (Lib.hid hB) _ _ _ _ (Lib.hid hE) hb w).mono (fun _ _ h => setV_bad _ 0 (by rw [e]) (by decide) h)
      · have e := fin_good (loK k) (hiK k) false E (1, 1) E.1.high (by simp) hw1 hb
        rw [← hI] at e
        exact (item_1f k _ _ _ hs (mkB p0) (Lib.hid hB) _ _ _ _ (Lib.hid hE) (by omega) (by omega) (by omega) hhi w).mono (fun _ _ h => setV_good _ _ _ _ _ (by rw [e]; simp) h)
  | [p0, p1] =>
    rw [hc] at hm hB
    have hI : itemK k l = finS (loK k) (hiK k) true (endsK k p0) (stepS p1) := by unfold itemK itemS; rw [hc]; rfl
    have hE := ends_any k hk p0 (by have := hm p0 (by simp); omega)
    have hS : StepIs (mkB p1) (stepS p1) := fun W => by
      have := step_any (mkB p1) (by rw [mkB_size]; have := hm p1 (by simp); omega) W
      rw [mkB_data] at this
      exact this
    have hv2 := endsK_le k p0
    have hu := step_ok p1
    have hu2 : (stepS p1).1 ≤ hugeN := by
      unfold stepS
      split
      · exact Nat.zero_le _
      · split
        · exact Nat.zero_le _
        · exact cnum_le p1
    generalize endsK k p0 = E at hI hE hv2
    generalize stepS p1 = q at hI hS hu hu2
    obtain ⟨H, hH⟩ : ∃ H, H = if (E.1.single && !E.1.star) = true then hiK k else E.1.high := ⟨_, rfl⟩
    have hH2 : H = if (true && E.1.single && !E.1.star) = true then hiK k else E.1.high := by rw [Bool.true_and]; exact hH
    by_cases hw : worseN E.2 q.2 ≠ 1
    · have e := fin_bad (loK k) (hiK k) true E q hw
      rw [← hI] at e
      exact (item_2v k _ _ _ hs (mkB p0) (mkB p1) (Lib.hid hB) _ _ _ _ _ hv2 hu.1 _ _ (Lib.hid hE) (Lib.hid hS) H (Lib.hid hH) hw w).mono (fun _ _ h => setV_bad _ _ (by rw [e]) hw h)
    · have hw1 : worseN E.2 q.2 = 1 := by omega
      have hq1 := (worse_one hv2 hu.1 hw1).2
      by_cases hb : E.1.low < loK k ∨ hiK k < H ∨ H < E.1.low
      · have e := fin_out (loK k) (hiK k) true E q H hH2 hw1 hb
        rw [← hI] at e
        exact (item_2b k _ _ _ hs (mkB p0) (mkB p1) (Lib.hid hB) _ _ _ _ _ hv2 hu.1 _ _ (Lib.hid hE) (Lib.hid hS) H (Lib.hid hH) hw1 hb w).mono (fun _ _ h => setV_bad _ 0 (by rw [e]) (by decide) h)
      · have e := fin_good (loK k) (hiK k) true E q H hH2 hw1 hb
        rw [← hI] at e
        have h1 := (hu.2.2 hq1).1
        exact (item_2f k _ _ _ hs (mkB p0) (mkB p1) (Lib.hid hB) _ _ _ _ _ hv2 hu.1 _ _ (Lib.hid hE) (Lib.hid hS) H (Lib.hid hH) hw1 (by omega) (by omega) (by omega) hhi (by omega) hu2 w).mono (fun _ _ h => setV_good _ _ _ _ _ e h)
  | p0 :: p1 :: p2 :: pr =>
    rw [hc] at hm hB
    have hI : itemK k l = (0, ⟨0, 0, 0, false⟩) := by unfold itemK itemS; rw [hc]
    exact (item_3 k _ _ _ hs (mkB p0) (mkB p1) (mkB p2) (pr.map mkB) (Lib.hid hB) w).mono (fun _ _ h => setV_bad _ 0 (by rw [hI]) (by decide) h)
end Go.Proofs.YtkhggefbkhdimaaGreatDoor
