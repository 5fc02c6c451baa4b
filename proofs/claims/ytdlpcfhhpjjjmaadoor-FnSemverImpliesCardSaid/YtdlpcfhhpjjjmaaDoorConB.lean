/- Open and shut: what stands ahead of the operators' leaves. -/
import Derived.Test.YtdlpcfhhpjjjmaaDoorConA
namespace Go.Proofs.YtdlpcfhhpjjjmaaDoor
open Go.RowKit
set_option linter.unusedVariables false

/-- A release, or prereleases are let in. -/
def openP (q : ByteArray) (pre : Bool) : Prop := q.toList = [] ∨ (q.toList.isEmpty = false ∧ pre = true)
theorem open_ways (q : ByteArray) (pre : Bool) (h : openP q pre) : (q.toList = [] ∧ pre = false) ∨ (q.toList = [] ∧ pre = true) ∨ (q.toList.isEmpty = false ∧ pre = true) := by
  rcases h with h | h
  · cases pre with
    | false => exact .inl ⟨h, rfl⟩
    | true => exact .inr (.inl ⟨h, rfl⟩)
  · exact .inr (.inr h)
theorem open_or (q : ByteArray) (pre : Bool) : openP q pre ∨ (q.toList.isEmpty = false ∧ pre = false) := by
  cases h : q.toList.isEmpty with
  | true => exact .inl (.inl (by simpa using h))
  | false =>
    cases pre with
    | true => exact .inl (.inr ⟨h, rfl⟩)
    | false => exact .inr ⟨rfl, rfl⟩
theorem shut_open (q : ByteArray) (pre b : Bool) (h : openP q pre) : shutB q.toList.isEmpty pre b = b := by
  rcases h with h | ⟨h, h2⟩
  · rw [h]; rfl
  · rw [h, h2]; rfl
theorem shut_shut (q : ByteArray) (pre b : Bool) (h : q.toList.isEmpty = false) (h2 : pre = false) : shutB q.toList.isEmpty pre b = false := by rw [h, h2]; rfl
end Go.Proofs.YtdlpcfhhpjjjmaaDoor
