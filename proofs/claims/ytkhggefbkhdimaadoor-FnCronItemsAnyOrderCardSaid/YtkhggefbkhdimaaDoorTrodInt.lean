/- From a slice of ints that came in, as a row reads it, to SlOf. -/
import Derived.Test.YtkhggefbkhdimaaDoorTrodSl
namespace Go.Proofs.YtkhggefbkhdimaaDoor
open Go.RowKit Go.ChangeShapes Go.WideShapes Go.Deep
set_option linter.unusedVariables false

/-- One cell that holds an int. -/
def RInt (_ : World) (us : List Value) (x : Int) : Prop := us = [.int .i64 x]
theorem RInt.mono : Mono RInt := fun _ _ _ _ _ h => h
theorem cells_intI : Tryd.prog.cellsOf 3 = 1 := by kernel_rfl
theorem trod_ints {H : Type} {enc : TypeId × Value → H} {W : World} {spare : Nat → Bool} {held : Bool} {n : Nat} {v : Value} {x : DataW H × List MemPlace}
    (h : DataW.trod enc Tryd.prog W 0 spare held n 37 [v] = some x) : ∃ l : List Int, SlOf RInt 1 W v l ∧ ∀ t ∈ l, (Lit.int .i64 t).wf = true :=
  sl_of_trod RInt (fun t => (Lit.int .i64 t).wf = true) 1 cells_intI (by decide) Tryd.underlying37 (fun n cs y hl hy => by
    match cs, hl with
    | [u], _ =>
      obtain ⟨x0, e0, _, w0⟩ := DataW.trod_int Tryd.underlying3 hy
      obtain rfl := (List.cons.inj e0).1
      exact ⟨x0, rfl, w0⟩) h
set_option maxRecDepth 100000 in
theorem open_ints9 {H : Type} {enc : TypeId × Value → H} {W : World} {b0 : Nat} {spare : Nat → Bool} {held : Bool} {r : Reach} {v : Value} {d : DataW H} {p : List MemPlace} (hv : Value.okWide Tryd.prog W r b0 37 v) (h : DataW.Trod enc Tryd.prog W 0 spare held 37 v d p) :
    ∃ l : List Int, SlOf RInt 1 W v l ∧ ∀ t ∈ l, (Lit.int .i64 t).wf = true := by
  obtain ⟨a, len, cap, rfl⟩ := okWide_slice Tryd.underlying37 hv
  obtain ⟨fuel, hf⟩ := h
  exact trod_ints (by simpa [Value.cells] using hf)
end Go.Proofs.YtkhggefbkhdimaaDoor
