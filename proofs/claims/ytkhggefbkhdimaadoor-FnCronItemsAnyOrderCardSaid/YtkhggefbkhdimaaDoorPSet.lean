/- The bits of a union of items: plain. -/
import Derived.Test.YtkhggefbkhdimaaDoorPVal
namespace Go.Proofs.YtkhggefbkhdimaaDoor
open Go.Lib
set_option linter.unusedVariables false

theorem item_high (lo hi : Nat) (days : Bool) (V : List UInt8 → Nat × Nat) (t : List UInt8) (h : (itemS lo hi days V t).1 = 1) : (itemS lo hi days V t).2.high ≤ hi := by
  have key : ∀ two E k, (finS lo hi two E k).1 = 1 → (finS lo hi two E k).2.high ≤ hi := by
    intro two E k h
    unfold finS at h ⊢
    dsimp only at h ⊢
    by_cases h1 : worseN E.2 k.2 ≠ 1
    · rw [if_pos h1] at h; exact absurd h h1
    · rw [if_neg h1] at h ⊢
      by_cases h2 : E.1.low < lo ∨ hi < (if (two && E.1.single && !E.1.star) = true then hi else E.1.high) ∨ (if (two && E.1.single && !E.1.star) = true then hi else E.1.high) < E.1.low
      · rw [if_pos h2] at h; cases h
      · rw [if_neg h2]
        dsimp only
        omega
  unfold itemS at h ⊢
  match hc : cutL 47 t with
  | [] => rw [hc] at h; cases h
  | [p0] => rw [hc] at h; exact key _ _ _ h
  | [p0, p1] => rw [hc] at h; exact key _ _ _ h
  | _ :: _ :: _ :: _ => rw [hc] at h; cases h
theorem itemS_le (lo hi : Nat) (days : Bool) (V : List UInt8 → Nat × Nat) (hV : ∀ t, (V t).2 ≤ 2) (t : List UInt8) : (itemS lo hi days V t).1 ≤ 2 := by
  have hE : ∀ t, (endsS lo hi days V t).2 ≤ 2 := by
    intro t
    unfold endsS
    split
    · exact Nat.zero_le _
    · split
      · dsimp only; split <;> omega
      · split
        · exact hV _
        · exact worse_le (hV _) (hV _)
        · exact Nat.zero_le _
  have key : ∀ two E k, E.2 ≤ 2 → k.2 ≤ 2 → (finS lo hi two E k).1 ≤ 2 := by
    intro two E k h1 h2
    unfold finS
    dsimp only
    by_cases h3 : worseN E.2 k.2 ≠ 1
    · rw [if_pos h3]; exact worse_le h1 h2
    · rw [if_neg h3]
      generalize (if (two && E.1.single && !E.1.star) = true then hi else E.1.high) = q
      split <;> simp
  unfold itemS
  split
  · exact key _ _ _ (hE _) (by decide)
  · exact key _ _ _ (hE _) (step_ok _).1
  · exact Nat.zero_le _
theorem item_bit (i : Item) (h : i.high ≤ 62) (v : Nat) : i.bits.testBit v = (steps i.low i.high i.step v || (i.star && decide (v = 63))) := by
  unfold Item.bits
  rw [Nat.testBit_or]
  have h1 : (GB i.low i.high i.step).testBit v = steps i.low i.high i.step v := by
    by_cases hv : v < 64
    · exact GB_bit _ _ _ _ hv
    · have h2 : (GB i.low i.high i.step).testBit v = false := Nat.testBit_lt_two_pow (Nat.lt_of_lt_of_le (GB_lt _ _ _) (by rw [show 18446744073709551616 = 2 ^ 64 from rfl]; exact Nat.pow_le_pow_right (by decide) (by omega)))
      have h3 : steps i.low i.high i.step v = false := by
        unfold steps
        have : decide (v ≤ i.high) = false := decide_eq_false (by omega)
        rw [this]; simp
      rw [h2, h3]
  rw [h1]
  congr 1
  cases i.star with
  | false => simp
  | true =>
    rw [if_pos rfl, show 9223372036854775808 = 2 ^ 63 from rfl, Nat.testBit_two_pow, Bool.true_and]
    exact decide_eq_decide.2 ⟨fun h => h.symm, fun h => h.symm⟩
theorem fieldB_bit (S : List UInt8 → Nat × Item) : ∀ (ps : List (List UInt8)) (b v : Nat), (fieldB S ps b).testBit v = (b.testBit v || ps.any (fun p => (S p).2.bits.testBit v))
  | [], b, v => by simp [fieldB]
  | p :: ps, b, v => by
    unfold fieldB
    rw [fieldB_bit S ps, Nat.testBit_or, List.any_cons, Bool.or_assoc]
/-- The values and the star of the union of the items that are fine. -/
def memF (S : List UInt8 → Nat × Item) (ps : List (List UInt8)) (v : Nat) : Bool := ps.any (fun p => !p.isEmpty && decide ((S p).1 = 1) && steps (S p).2.low (S p).2.high (S p).2.step v)
def memS (S : List UInt8 → Nat × Item) (ps : List (List UInt8)) : Bool := ps.any (fun p => !p.isEmpty && decide ((S p).1 = 1) && (S p).2.star)
theorem any_or {α : Type} (f g : α → Bool) : ∀ l : List α, l.any (fun x => f x || g x) = (l.any f || l.any g)
  | [] => rfl
  | a :: l => by rw [List.any_cons, List.any_cons, List.any_cons, any_or f g l]; cases f a <;> cases g a <;> cases l.any f <;> simp
theorem any_congr' {α : Type} (f g : α → Bool) : ∀ l : List α, (∀ x ∈ l, f x = g x) → l.any f = l.any g
  | [], _ => rfl
  | a :: l, h => by rw [List.any_cons, List.any_cons, h a (by simp), any_congr' f g l (fun x hx => h x (by simp [hx]))]
theorem set_bits (S : List UInt8 → Nat × Item) (ps : List (List UInt8)) (hall : ∀ p ∈ ps, p ≠ [] ∧ (S p).1 = 1) (hh : ∀ p ∈ ps, (S p).2.high ≤ 62) :
    setOf (fun i => decide (i < 63) && memF S ps i) ||| (if memS S ps = true then 9223372036854775808 else 0) = fieldB S ps 0 := by
  have e1 : ∀ v, memF S ps v = ps.any (fun p => steps (S p).2.low (S p).2.high (S p).2.step v) := fun v => any_congr' _ _ ps (fun p hp => by
    have h1 := (hall p hp).1
    have h2 := (hall p hp).2
    cases p with
    | nil => exact absurd rfl h1
    | cons a b => simp [h2])
  have e2 : memS S ps = ps.any (fun p => (S p).2.star) := any_congr' _ _ ps (fun p hp => by
    have h1 := (hall p hp).1
    have h2 := (hall p hp).2
    cases p with
    | nil => exact absurd rfl h1
    | cons a b => simp [h2])
  refine Nat.eq_of_testBit_eq (fun v => ?_)
  rw [Nat.testBit_or, setOf_bit, fieldB_bit, Nat.zero_testBit, Bool.false_or, e1, e2]
  rw [any_congr' (fun p => (S p).2.bits.testBit v) (fun p => steps (S p).2.low (S p).2.high (S p).2.step v || ((S p).2.star && decide (v = 63))) ps (fun p hp => item_bit _ (hh p hp) v), any_or]
  have e3 : (if (ps.any fun p => (S p).2.star) = true then 9223372036854775808 else 0 : Nat).testBit v = ps.any (fun p => (S p).2.star && decide (v = 63)) := by
    by_cases hv : v = 63
    · subst hv
      simp only [decide_true, Bool.and_true]
      cases ps.any (fun p => (S p).2.star) <;> decide
    · simp only [hv, decide_false, Bool.and_false]
      have h0 : ps.any (fun _ => false) = false := by simp
      rw [h0]
      split
      · rw [show 9223372036854775808 = 2 ^ 63 from rfl, Nat.testBit_two_pow]
        exact decide_eq_false (fun h => hv h.symm)
      · exact Nat.zero_testBit _
  rw [e3]
  congr 1
  by_cases hv : v < 63
  · simp [hv, show v < 64 by omega]
  · have h0 : ps.any (fun p => steps (S p).2.low (S p).2.high (S p).2.step v) = false := by
      rw [any_congr' _ (fun _ => false) ps (fun p hp => by
        unfold steps
        have : decide (v ≤ (S p).2.high) = false := decide_eq_false (by have := hh p hp; omega)
        rw [this]; simp)]
      simp
    rw [h0]
    simp
end Go.Proofs.YtkhggefbkhdimaaDoor
