/- laws.FnCronItemsAnyOrder, and a slice of texts that came in. -/
import Derived.Test.YtkhggefbkhdimaaDoorFdY
namespace Go.Proofs.YtkhggefbkhdimaaDoor
open Go.RowKit Go.ChangeShapes Go.WideShapes Go.Deep
set_option linter.unusedVariables false

theorem cells_str1 : Tryd.prog.cellsOf 9 = 1 := by kernel_rfl
theorem trod_strs {H : Type} {enc : TypeId × Value → H} {W : World} {spare : Nat → Bool} {held : Bool} {n : Nat} {v : Value} {x : DataW H × List MemPlace}
    (h : DataW.trod enc Tryd.prog W 0 spare held n 36 [v] = some x) : ∃ l : List ByteArray, SlOf RStr 1 W v l ∧ ∀ t ∈ l, t.size ≤ maxLen :=
  sl_of_trod RStr (fun t => t.size ≤ maxLen) 1 cells_str1 (by decide) Tryd.underlying36 (fun n cs y hl hy => by
    match cs, hl with
    | [u], _ =>
      obtain ⟨x0, e0, _, w0⟩ := DataW.trod_string Tryd.underlying9 hy
      obtain rfl := (List.cons.inj e0).1
      exact ⟨x0, rfl, w0⟩) h
set_option maxRecDepth 100000 in
theorem open_strl {H : Type} {enc : TypeId × Value → H} {W : World} {b0 : Nat} {spare : Nat → Bool} {held : Bool} {r : Reach} {v : Value} {d : DataW H} {p : List MemPlace} (hv : Value.okWide Tryd.prog W r b0 36 v) (h : DataW.Trod enc Tryd.prog W 0 spare held 36 v d p) :
    ∃ l : List ByteArray, SlOf RStr 1 W v l ∧ ∀ t ∈ l, t.size ≤ maxLen := by
  obtain ⟨a, len, cap, rfl⟩ := okWide_slice Tryd.underlying36 hv
  obtain ⟨fuel, hf⟩ := h
  exact trod_strs (by simpa [Value.cells] using hf)

end Go.Proofs.YtkhggefbkhdimaaDoor
