/- One item of a cron field: spec.CronItem and cron.getRange, plain. -/
import Derived.Test.YtkhggefbkhdimaaDoorPNu
import Derived.Test.YtkhggefbkhdimaaDoorPBits
namespace Go.Proofs.YtkhggefbkhdimaaDoor
open Go.Lib
set_option linter.unusedVariables false

theorem num_open (l : List UInt8) (h : (cnum l).2 = 2) (h0 : (cnum l).1 = 0) : ∀ v, mustI l = some v → v = 0 := by
  cases l with
  | nil => simp [cnum, signL] at h
  | cons c r =>
    unfold cnum at h h0
    by_cases hs : c.toNat = 43 ∨ (c.toNat = 45 ∧ zerosB r = true)
    · rw [signL_cons, if_pos hs] at h h0
      dsimp only at h h0
      by_cases hr : r = []
      · rw [if_pos hr] at h; simp at h
      · rw [if_neg hr] at h h0
        by_cases ha : r.all digB = true
        · rw [if_pos ha] at h0
          dsimp only at h0
          have hp := par_dig r 0 0 ha (by simp)
          have hs2 : c.toNat = 43 ∨ c.toNat = 45 := by rcases hs with h | h; exact Or.inl h; exact Or.inr h.1
          intro v hv
          unfold mustI atoiAll parseMag at hv
          dsimp only at hv
          rw [if_pos hs2, if_neg hr] at hv
          cases hq : parseUint10 0 r with
          | ok u =>
            have hu := hp.1 u hq
            rw [h0] at hu
            have hu0 : u = 0 := by unfold hugeN at hu; omega
            subst hu0
            rw [hq] at hv
            dsimp only at hv
            rw [if_neg (by omega), if_neg (by omega)] at hv
            by_cases h45 : c.toNat = 45
            · rw [if_pos h45] at hv; simp at hv; exact hv.symm
            · rw [if_neg h45] at hv; simp at hv; exact hv.symm
          | _ => rw [hq] at hv; cases hv
        · rw [if_neg ha] at h; simp at h
    · rw [signL_cons, if_neg hs] at h
      dsimp only at h
      split at h
      · simp at h
      · split at h <;> simp at h

/-- A value: what the reference says of it, and what the code reads. -/
def ValOk (vs : Nat × Nat) (vi : Option Nat) : Prop :=
  vs.1 ≤ hugeN ∧ vs.2 ≤ 2 ∧ (vs.2 = 0 → vi = none) ∧ (vs.2 = 1 → (vs.1 < hugeN → vi = some vs.1) ∧ (vs.1 = hugeN → ∀ v, vi = some v → hugeN ≤ v))
theorem cnum_v (l : List UInt8) : (cnum l).2 ≤ 2 := by
  unfold cnum
  split
  · exact Nat.zero_le _
  · split
    · cases l with
      | nil => decide
      | cons c r => rw [signL_cons]; split <;> simp
    · exact Nat.zero_le _
theorem num_ok (l : List UInt8) : ValOk (cnum l) (mustI l) := ⟨cnum_le l, cnum_v l, num_bad l, num_fine l⟩
def worseN (a b : Nat) : Nat := if a = 0 ∨ b = 0 then 0 else max a b

structure Ends where
  low : Nat
  high : Nat
  star : Bool
  single : Bool
/-- spec.cronEnds. -/
def endsS (lo hi : Nat) (days : Bool) (V : List UInt8 → Nat × Nat) (t : List UInt8) : Ends × Nat :=
  match cutL 45 t with
  | [] => (⟨0, 0, false, false⟩, 0)
  | e0 :: es =>
    if e0 = [42] ∨ e0 = [63] then (⟨lo, hi, true, es.isEmpty⟩, if es.isEmpty = false ∨ (e0 = [63] ∧ days = false) then 2 else 1)
    else match es with
      | [] => (⟨(V e0).1, (V e0).1, false, true⟩, (V e0).2)
      | [e1] => (⟨(V e0).1, (V e1).1, false, false⟩, worseN (V e0).2 (V e1).2)
      | _ => (⟨0, 0, false, false⟩, 0)
/-- The ends that cron.getRange reads. -/
def endsI (lo hi : Nat) (U : List UInt8 → Option Nat) (t : List UInt8) : Option Ends :=
  match cutL 45 t with
  | [] => none
  | e0 :: es =>
    if e0 = [42] ∨ e0 = [63] then some ⟨lo, hi, true, es.isEmpty⟩
    else match U e0 with
      | none => none
      | some a => match es with
        | [] => some ⟨a, a, false, true⟩
        | [e1] => match U e1 with
          | none => none
          | some b => some ⟨a, b, false, false⟩
        | _ => none
def EndOk (E : Ends × Nat) (I : Option Ends) : Prop :=
  E.2 ≤ 2 ∧ (E.2 = 0 → I = none) ∧ (E.2 = 1 → E.1.low ≤ hugeN ∧ E.1.high ≤ hugeN ∧ (E.1.single = true → E.1.star = false → E.1.high = E.1.low) ∧ (E.1.low < hugeN → E.1.high < hugeN → ∃ x, I = some x) ∧
    ∀ x, I = some x → x.star = E.1.star ∧ x.single = E.1.single ∧ (E.1.low < hugeN → x.low = E.1.low) ∧ (E.1.low = hugeN → hugeN ≤ x.low) ∧ (E.1.high < hugeN → x.high = E.1.high) ∧ (E.1.high = hugeN → hugeN ≤ x.high))
theorem worse_one {a b : Nat} (ha : a ≤ 2) (hb : b ≤ 2) (h : worseN a b = 1) : a = 1 ∧ b = 1 := by
  unfold worseN at h
  split at h
  · omega
  · omega
theorem worse_zero {a b : Nat} (h : worseN a b = 0) : a = 0 ∨ b = 0 := by
  unfold worseN at h
  split at h
  · assumption
  · omega
theorem worse_le {a b : Nat} (ha : a ≤ 2) (hb : b ≤ 2) : worseN a b ≤ 2 := by
  unfold worseN
  split <;> omega
theorem val_some {vs : Nat × Nat} {vi : Option Nat} (h : ValOk vs vi) (h1 : vs.2 = 1) {v : Nat} (hv : vi = some v) : (vs.1 < hugeN → v = vs.1) ∧ (vs.1 = hugeN → hugeN ≤ v) :=
  ⟨fun hl => by have := (h.2.2.2 h1).1 hl; rw [hv] at this; exact Option.some.inj this, fun hh => (h.2.2.2 h1).2 hh v hv⟩
theorem ends_ok (lo hi : Nat) (hh : lo < hugeN ∧ hi < hugeN) (days : Bool) (V : List UInt8 → Nat × Nat) (U : List UInt8 → Option Nat) (hV : ∀ t, ValOk (V t) (U t)) (t : List UInt8) : EndOk (endsS lo hi days V t) (endsI lo hi U t) := by
  unfold endsS endsI
  cases hc : cutL 45 t with
  | nil => exact absurd hc (cutL_ne _ _)
  | cons e0 es =>
    dsimp only
    by_cases hs : e0 = [42] ∨ e0 = [63]
    · rw [if_pos hs, if_pos hs]
      refine ⟨by dsimp only; split <;> omega, fun h => ?_, fun _ => ⟨Nat.le_of_lt hh.1, Nat.le_of_lt hh.2, (fun _ h => by cases h), fun _ _ => ⟨_, rfl⟩, fun x hx => ?_⟩⟩
      · dsimp only at h; split at h <;> omega
      · have := Option.some.inj hx
        subst this
        exact ⟨rfl, rfl, fun _ => rfl, fun h => (by have := hh.1; dsimp only at h; omega), fun _ => rfl, fun h => (by have := hh.2; dsimp only at h; omega)⟩
    · rw [if_neg hs, if_neg hs]
      have h0 := hV e0
      match es with
      | [] =>
        dsimp only
        refine ⟨h0.2.1, fun h => by rw [h0.2.2.1 h], fun h => ⟨h0.1, h0.1, fun _ _ => rfl, fun hl _ => ?_, fun x hx => ?_⟩⟩
        · rw [(h0.2.2.2 h).1 hl]; exact ⟨_, rfl⟩
        · cases hu : U e0 with
          | none => rw [hu] at hx; cases hx
          | some a =>
            rw [hu] at hx
            have := Option.some.inj hx
            subst this
            have hv := val_some h0 h hu
            exact ⟨rfl, rfl, hv.1, hv.2, hv.1, hv.2⟩
      | [e1] =>
        have h1 := hV e1
        dsimp only
        refine ⟨worse_le h0.2.1 h1.2.1, fun h => ?_, fun h => ?_⟩
        · rcases worse_zero h with h | h
          · rw [h0.2.2.1 h]
          · rw [h1.2.2.1 h]
            cases U e0 <;> rfl
        · have hw := worse_one h0.2.1 h1.2.1 h
          refine ⟨h0.1, h1.1, fun h => (by cases h), fun hl hg => ?_, fun x hx => ?_⟩
          · rw [(h0.2.2.2 hw.1).1 hl, (h1.2.2.2 hw.2).1 hg]; exact ⟨_, rfl⟩
          · cases hu : U e0 with
            | none => rw [hu] at hx; cases hx
            | some a =>
              rw [hu] at hx
              cases hu1 : U e1 with
              | none => rw [hu1] at hx; cases hx
              | some b =>
                rw [hu1] at hx
                have := Option.some.inj hx
                subst this
                have hv := val_some h0 hw.1 hu
                have hv1 := val_some h1 hw.2 hu1
                exact ⟨rfl, rfl, hv.1, hv.2, hv1.1, hv1.2⟩
      | _ :: _ :: _ =>
        dsimp only
        refine ⟨by omega, fun _ => ?_, fun h => by omega⟩
        cases U e0 <;> rfl

/-- spec.CronStep. -/
def stepS (t : List UInt8) : Nat × Nat := if (cnum t).2 = 0 ∨ (cnum t).1 = 0 then (0, 0) else if (cnum t).1 = hugeN then (0, 2) else cnum t
theorem step_ok (t : List UInt8) : (stepS t).2 ≤ 2 ∧ ((stepS t).2 = 0 → ∀ v, mustI t = some v → v = 0) ∧ ((stepS t).2 = 1 → 0 < (stepS t).1 ∧ mustI t = some (stepS t).1) := by
  have hn := num_ok t
  unfold stepS
  by_cases h : (cnum t).2 = 0 ∨ (cnum t).1 = 0
  · rw [if_pos h]
    refine ⟨(by dsimp only; omega), fun _ v hv => ?_, fun h => by dsimp only at h; omega⟩
    by_cases h0 : (cnum t).2 = 0
    · rw [hn.2.2.1 h0] at hv; cases hv
    · have hz : (cnum t).1 = 0 := h.resolve_left h0
      by_cases h1 : (cnum t).2 = 1
      · have := (val_some hn h1 hv).1 (by rw [hz]; decide)
        omega
      · exact num_open t (by have := hn.2.1; omega) hz v hv
  · rw [if_neg h]
    by_cases h2 : (cnum t).1 = hugeN
    · rw [if_pos h2]; exact ⟨(by dsimp only; omega), (fun h => by dsimp only at h; omega), (fun h => by dsimp only at h; omega)⟩
    · rw [if_neg h2]
      refine ⟨hn.2.1, fun h0 => absurd (Or.inl h0) h, fun h1 => ⟨by omega, (hn.2.2.2 h1).1 (by have := hn.1; omega)⟩⟩

/-- What an item means. -/
structure Item where
  low : Nat
  high : Nat
  step : Nat
  star : Bool
def Item.bits (i : Item) : Nat := GB i.low i.high i.step ||| (if i.star then 9223372036854775808 else 0)
def finS (lo hi : Nat) (two : Bool) (E : Ends × Nat) (k : Nat × Nat) : Nat × Item :=
  let high := if two && E.1.single && !E.1.star then hi else E.1.high
  if worseN E.2 k.2 ≠ 1 then (worseN E.2 k.2, ⟨0, 0, 0, false⟩)
  else if E.1.low < lo ∨ hi < high ∨ high < E.1.low then (0, ⟨0, 0, 0, false⟩)
  else (1, ⟨E.1.low, high, k.1, E.1.star && decide (k.1 = 1)⟩)
/-- spec.CronItem. -/
def itemS (lo hi : Nat) (days : Bool) (V : List UInt8 → Nat × Nat) (t : List UInt8) : Nat × Item :=
  match cutL 47 t with
  | [p0] => finS lo hi false (endsS lo hi days V p0) (1, 1)
  | [p0, p1] => finS lo hi true (endsS lo hi days V p0) (stepS p1)
  | _ => (0, ⟨0, 0, 0, false⟩)
def finI (lo hi : Nat) (two : Bool) (E : Ends) (k : Nat) : Option Item :=
  let high := if two && E.single then hi else E.high
  if E.low < lo ∨ hi < high ∨ high < E.low ∨ k = 0 then none else some ⟨E.low, high, k, E.star && decide (k ≤ 1)⟩
/-- cron.getRange. -/
def itemI (lo hi : Nat) (U : List UInt8 → Option Nat) (t : List UInt8) : Option Item :=
  match cutL 47 t with
  | [] => none
  | p0 :: ps => match endsI lo hi U p0 with
    | none => none
    | some E => match ps with
      | [] => finI lo hi false E 1
      | [p1] => match mustI p1 with
        | none => none
        | some k => finI lo hi true E k
      | _ => none
theorem fin_ok (lo hi : Nat) (hl : lo ≤ hi) (hh : hi < hugeN) (two : Bool) (E : Ends × Nat) (I : Option Ends) (hE : EndOk E I) (k : Nat × Nat) (ki : Option Nat) (hk2 : k.2 ≤ 2) (hk0 : k.2 = 0 → ∀ v, ki = some v → v = 0) (hk1 : k.2 = 1 → 0 < k.1 ∧ ki = some k.1) (hstar : E.1.star = true → E.1.high = hi) :
    ((finS lo hi two E k).1 = 0 → ∀ x v, I = some x → ki = some v → finI lo hi two x v = none) ∧
    ((finS lo hi two E k).1 = 1 → ∃ x v, I = some x ∧ ki = some v ∧ finI lo hi two x v = some (finS lo hi two E k).2) := by
  obtain ⟨e2, e0, e1⟩ := hE
  unfold finS
  dsimp only
  by_cases hw : worseN E.2 k.2 = 1
  · obtain ⟨w1, w2⟩ := worse_one e2 hk2 hw
    obtain ⟨kp, kv⟩ := hk1 w2
    obtain ⟨q1, q2, q3, q4, q5⟩ := e1 w1
    rw [if_neg (fun h => h hw)]
    by_cases hb : E.1.low < lo ∨ hi < (if (two && E.1.single && !E.1.star) = true then hi else E.1.high) ∨ (if (two && E.1.single && !E.1.star) = true then hi else E.1.high) < E.1.low
    · rw [if_pos hb]
      refine ⟨fun _ x v hx hv => ?_, fun h => by dsimp only at h; omega⟩
      obtain ⟨r1, r2, r3, r4, r5, r6⟩ := q5 x hx
      rw [kv] at hv
      have hv := Option.some.inj hv
      unfold finI
      dsimp only
      rw [if_pos]
      rw [r2]
      by_cases c1 : (two && E.1.single) = true
      · rw [if_pos c1]
        by_cases c2 : E.1.star = true
        · rw [c2] at hb
          simp only [Bool.not_true, Bool.and_false, Bool.false_eq_true, if_false] at hb
          have := hstar c2
          by_cases c3 : E.1.low < hugeN
          · have := r3 c3; omega
          · have := r4 (by omega); omega
        · rw [if_pos (by simp only [Bool.not_eq_true] at c2; rw [c2, c1]; rfl)] at hb
          by_cases c3 : E.1.low < hugeN
          · have := r3 c3; omega
          · have := r4 (by omega); omega
      · rw [if_neg c1]
        rw [if_neg (fun h => c1 (by rw [Bool.and_eq_true] at h; exact h.1))] at hb
        by_cases c3 : E.1.low < hugeN
        · have := r3 c3
          by_cases c4 : E.1.high < hugeN
          · have := r5 c4; omega
          · have := r6 (by omega); omega
        · have := r4 (by omega)
          by_cases c4 : E.1.high < hugeN
          · have := r5 c4; omega
          · have := r6 (by omega); omega
    · rw [if_neg hb]
      refine ⟨fun h => by dsimp only at h; omega, fun _ => ?_⟩
      have hlow : E.1.low < hugeN := by
        rcases Nat.lt_or_ge E.1.low hugeN with c | c
        · exact c
        · exfalso; split at hb <;> omega
      have hhigh : E.1.high < hugeN := by
        by_cases c : (two && E.1.single && !E.1.star) = true
        · rw [Bool.and_eq_true, Bool.and_eq_true] at c
          have := q3 c.1.2 (by simpa using c.2)
          omega
        · rw [if_neg c] at hb; omega
      obtain ⟨x, hx⟩ := q4 hlow hhigh
      obtain ⟨r1, r2, r3, r4, r5, r6⟩ := q5 x hx
      have x1 := r3 hlow
      have x2 := r5 hhigh
      refine ⟨x, k.1, hx, kv, ?_⟩
      have ehigh : (if (two && x.single) = true then hi else x.high) = (if (two && E.1.single && !E.1.star) = true then hi else E.1.high) := by
        rw [r2, x2]
        by_cases c1 : (two && E.1.single) = true
        · rw [if_pos c1]
          by_cases c2 : E.1.star = true
          · rw [if_neg (by rw [c2]; simp), hstar c2]
          · rw [if_pos (by simp only [Bool.not_eq_true] at c2; rw [c2, c1]; rfl)]
        · rw [if_neg c1, if_neg (fun h => c1 (by rw [Bool.and_eq_true] at h; exact h.1))]
      unfold finI
      dsimp only
      rw [ehigh, x1, r1, if_neg (by omega)]
      congr 2
      have : decide (k.1 ≤ 1) = decide (k.1 = 1) := decide_eq_decide.2 (by omega)
      rw [this]
  · rw [if_pos hw]
    refine ⟨fun h x v hx hv => ?_, fun h => absurd h hw⟩
    rcases worse_zero h with h | h
    · rw [e0 h] at hx; cases hx
    · have := hk0 h v hv
      subst this
      unfold finI
      dsimp only
      rw [if_pos (by omega)]
theorem ends_star (lo hi : Nat) (days : Bool) (V : List UInt8 → Nat × Nat) (t : List UInt8) : (endsS lo hi days V t).1.star = true → (endsS lo hi days V t).1.high = hi := by
  unfold endsS
  split
  · intro h; cases h
  · split
    · intro _; rfl
    · split <;> (intro h; cases h)
/-- An item that the reference calls wrong is refused; one that it calls fine is read as it means. -/
theorem item_ok (lo hi : Nat) (hl : lo ≤ hi) (hh : hi < hugeN) (days : Bool) (V : List UInt8 → Nat × Nat) (U : List UInt8 → Option Nat) (hV : ∀ t, ValOk (V t) (U t)) (t : List UInt8) :
    ((itemS lo hi days V t).1 = 0 → itemI lo hi U t = none) ∧ ((itemS lo hi days V t).1 = 1 → itemI lo hi U t = some (itemS lo hi days V t).2) := by
  unfold itemS itemI
  cases hc : cutL 47 t with
  | nil => exact absurd hc (cutL_ne _ _)
  | cons p0 ps =>
    have hE := ends_ok lo hi ⟨by omega, hh⟩ days V U hV p0
    have hst := ends_star lo hi days V p0
    match ps with
    | [] =>
      have hf := fin_ok lo hi hl hh false _ _ hE (1, 1) (some 1) (by decide) (fun h => by cases h) (fun _ => ⟨by decide, rfl⟩) hst
      dsimp only
      refine ⟨fun h => ?_, fun h => ?_⟩
      · cases hI : endsI lo hi U p0 with
        | none => rfl
        | some x => exact hf.1 h x 1 hI rfl
      · obtain ⟨x, v, hx, hv, hr⟩ := hf.2 h
        rw [hx]
        have := Option.some.inj hv
        subst this
        exact hr
    | [p1] =>
      have hs := step_ok p1
      have hf := fin_ok lo hi hl hh true _ _ hE (stepS p1) (mustI p1) hs.1 hs.2.1 hs.2.2 hst
      dsimp only
      refine ⟨fun h => ?_, fun h => ?_⟩
      · cases hI : endsI lo hi U p0 with
        | none => rfl
        | some x =>
          cases hm : mustI p1 with
          | none => rfl
          | some v => exact hf.1 h x v hI hm
      · obtain ⟨x, v, hx, hv, hr⟩ := hf.2 h
        rw [hx, hv]
        exact hr
    | _ :: _ :: _ =>
      dsimp only
      refine ⟨fun _ => ?_, fun h => by omega⟩
      cases endsI lo hi U p0 <;> rfl
end Go.Proofs.YtkhggefbkhdimaaDoor
