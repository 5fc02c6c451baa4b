/- Items in another order, and items written twice, mean the same: plain. -/
import Derived.Test.YtkhggefbkhdimaaDoorPVal
namespace Go.Proofs.YtkhggefbkhdimaaDoor
open Go.Lib
set_option linter.unusedVariables false

def bitAt (o : Option Item) (v : Nat) : Bool := match o with | some i => i.bits.testBit v | none => false
theorem fieldI_none (R : List UInt8 → Option Item) : ∀ (ps : List (List UInt8)) (b : Nat), fieldI R ps b = none ↔ ∃ p ∈ ps, R p = none
  | [], b => by simp [fieldI]
  | p :: ps, b => by
    unfold fieldI
    cases h : R p with
    | none => simp [h]
    | some i =>
      dsimp only
      rw [fieldI_none R ps]
      constructor
      · rintro ⟨q, h1, h2⟩; exact ⟨q, by simp [h1], h2⟩
      · rintro ⟨q, h1, h2⟩
        rcases List.mem_cons.1 h1 with rfl | h1
        · rw [h] at h2; cases h2
        · exact ⟨q, h1, h2⟩
theorem fieldI_bit (R : List UInt8 → Option Item) : ∀ (ps : List (List UInt8)) (b x : Nat), fieldI R ps b = some x → ∀ v, x.testBit v = (b.testBit v || ps.any (fun p => bitAt (R p) v))
  | [], b, x, h, v => by simp only [fieldI] at h; have := Option.some.inj h; subst this; simp
  | p :: ps, b, x, h, v => by
    unfold fieldI at h
    cases hp : R p with
    | none => rw [hp] at h; cases h
    | some i =>
      rw [hp] at h
      dsimp only at h
      rw [fieldI_bit R ps _ x h v, Nat.testBit_or, List.any_cons, hp]
      simp only [bitAt, Bool.or_assoc]
theorem fieldI_mem (R : List UInt8 → Option Item) (ps qs : List (List UInt8)) (h : ∀ p, p ∈ ps ↔ p ∈ qs) : fieldI R ps 0 = fieldI R qs 0 := by
  cases h1 : fieldI R ps 0 with
  | none =>
    obtain ⟨p, hp, hn⟩ := (fieldI_none R ps 0).1 h1
    exact ((fieldI_none R qs 0).2 ⟨p, (h p).1 hp, hn⟩).symm
  | some x =>
    cases h2 : fieldI R qs 0 with
    | none =>
      obtain ⟨p, hp, hn⟩ := (fieldI_none R qs 0).1 h2
      rw [(fieldI_none R ps 0).2 ⟨p, (h p).2 hp, hn⟩] at h1
      cases h1
    | some y =>
      congr 1
      refine Nat.eq_of_testBit_eq (fun v => ?_)
      rw [fieldI_bit R ps 0 x h1 v, fieldI_bit R qs 0 y h2 v]
      congr 1
      rw [Bool.eq_iff_iff, List.any_eq_true, List.any_eq_true]
      exact ⟨fun ⟨p, a, b⟩ => ⟨p, (h p).1 a, b⟩, fun ⟨p, a, b⟩ => ⟨p, (h p).2 a, b⟩⟩
/-- Texts with commas between them. -/
def joinC : List (List UInt8) → List UInt8
  | [] => []
  | [p] => p
  | p :: q :: ps => p ++ 44 :: joinC (q :: ps)
theorem cut_free : ∀ (p : List UInt8), (∀ x ∈ p, x.toNat ≠ 44) → cutL 44 p = [p]
  | [], _ => rfl
  | x :: p, h => by
    have hx : ((x.toNat : Int) == 44) = false := by simp only [beq_eq_false_iff_ne]; have := h x (by simp); omega
    rw [cutL, hx, cut_free p (fun y hy => h y (by simp [hy]))]
    simp
theorem cut_sep : ∀ (p r : List UInt8), (∀ x ∈ p, x.toNat ≠ 44) → cutL 44 (p ++ 44 :: r) = p :: cutL 44 r
  | [], r, _ => by
    show cutL 44 (44 :: r) = _
    rw [cutL]
    simp
  | x :: p, r, h => by
    have hx : ((x.toNat : Int) == 44) = false := by simp only [beq_eq_false_iff_ne]; have := h x (by simp); omega
    rw [List.cons_append, cutL, hx, cut_sep p r (fun y hy => h y (by simp [hy]))]
    simp
theorem cut_join : ∀ (ps : List (List UInt8)), ps ≠ [] → (∀ p ∈ ps, ∀ x ∈ p, x.toNat ≠ 44) → cutL 44 (joinC ps) = ps
  | [], h, _ => absurd rfl h
  | [p], _, h => cut_free p (h p (by simp))
  | p :: q :: ps, _, h => by
    unfold joinC
    rw [cut_sep p _ (h p (by simp)), cut_join (q :: ps) (by simp) (fun y hy => h y (by simp [hy]))]
end Go.Proofs.YtkhggefbkhdimaaDoor
