/- From a zone that came in, as a row reads it, to ZoneAt. -/
import Derived.Test.YtpgclepiagfgfaaTrodSl
import Derived.Test.YtpgclepiagfgfaaTzG
namespace Go.Proofs.Ytpgclepiagfgfaa
open Go.RowKit Go.ChangeShapes Go.WideShapes Go.Deep
set_option linter.unusedVariables false

theorem cells_zI : Try.prog.cellsOf 3 = 1 := by kernel_rfl
theorem cells_zL : Try.prog.cellsOf 2 = 1 := by kernel_rfl
theorem cells_zB : Try.prog.cellsOf 4 = 1 := by kernel_rfl
theorem cells_z0 : Try.prog.cellsOf 25 = 1 := by kernel_rfl
theorem cells_z1 : Try.prog.cellsOf 26 = 1 := by kernel_rfl
theorem cells_z2 : Try.prog.cellsOf 27 = 1 := by kernel_rfl
theorem cells_z : Try.prog.cellsOf 29 = 4 := by kernel_rfl
theorem trod_zI {H : Type} {enc : TypeId × Value → H} {W : World} {spare : Nat → Bool} {held : Bool} {n : Nat} {v : Value} {x : DataW H × List MemPlace}
    (h : DataW.trod enc Try.prog W 0 spare held n 25 [v] = some x) : ∃ l : List Int, SlOf RIn 1 W v l := by
  obtain ⟨l, hl, _⟩ := sl_of_trod RIn (fun t => (Lit.int .i64 t).wf = true) 1 cells_zI (by decide) Try.underlying25 (fun n cs y hl hy => by
    match cs, hl with
    | [u], _ =>
      obtain ⟨x0, e0, _, w0⟩ := DataW.trod_int Try.underlying3 hy
      obtain rfl := (List.cons.inj e0).1
      exact ⟨x0, rfl, w0⟩) h
  exact ⟨l, hl⟩
theorem trod_zL {H : Type} {enc : TypeId × Value → H} {W : World} {spare : Nat → Bool} {held : Bool} {n : Nat} {v : Value} {x : DataW H × List MemPlace}
    (h : DataW.trod enc Try.prog W 0 spare held n 27 [v] = some x) : ∃ l : List Int, SlOf RIn 1 W v l := by
  obtain ⟨l, hl, _⟩ := sl_of_trod RIn (fun t => (Lit.int .i64 t).wf = true) 1 cells_zL (by decide) Try.underlying27 (fun n cs y hl hy => by
    match cs, hl with
    | [u], _ =>
      obtain ⟨x0, e0, _, w0⟩ := DataW.trod_int Try.underlying2 hy
      obtain rfl := (List.cons.inj e0).1
      exact ⟨x0, rfl, w0⟩) h
  exact ⟨l, hl⟩
theorem trod_zB {H : Type} {enc : TypeId × Value → H} {W : World} {spare : Nat → Bool} {held : Bool} {n : Nat} {v : Value} {x : DataW H × List MemPlace}
    (h : DataW.trod enc Try.prog W 0 spare held n 26 [v] = some x) : ∃ l : List Bool, SlOf RBo 1 W v l := by
  obtain ⟨l, hl, _⟩ := sl_of_trod RBo (fun _ => True) 1 cells_zB (by decide) Try.underlying26 (fun n cs y hl hy => by
    match cs, hl with
    | [u], _ =>
      obtain ⟨x0, e0, _⟩ := DataW.trod_bool Try.underlying4 hy
      obtain rfl := (List.cons.inj e0).1
      exact ⟨x0, rfl, trivial⟩) h
  exact ⟨l, hl⟩
set_option maxRecDepth 100000 in
theorem open_zone {H : Type} {enc : TypeId × Value → H} {W : World} {b0 : Nat} {spare : Nat → Bool} {held : Bool} {r : Reach} {v : Value} {d : DataW H} {p : List MemPlace} (hv : Value.okWide Try.prog W r b0 29 v) (h : DataW.Trod enc Try.prog W 0 spare held 29 v d p) :
    ∃ (offs : List Int) (dsts : List Bool) (whens idxs : List Int), ZoneAt W v offs dsts whens idxs := by
  obtain ⟨cs, rfl, hsz⟩ := okWide_struct Try.underlying29 hv
  obtain ⟨l⟩ := cs
  match l, hsz.trans cells_z with
  | [c0, c1, c2, c3], _ =>
    obtain ⟨fuel, hf⟩ := h
    obtain ⟨xs, n, _, _, _, hlen, hg⟩ := DataW.trod_struct Try.underlying29 hf
    match xs, hlen with
    | [y0, y1, y2, y3], _ =>
      have g0 : DataW.trod enc Try.prog W 0 spare held n 25 [c0] = some y0 := by
        simpa [Value.cells, cells_z0] using hg 0 _ rfl
      have g1 : DataW.trod enc Try.prog W 0 spare held n 26 [c1] = some y1 := by
        simpa [Value.cells, cells_z1] using hg 1 _ rfl
      have g2 : DataW.trod enc Try.prog W 0 spare held n 27 [c2] = some y2 := by
        simpa [Value.cells, cells_z2] using hg 2 _ rfl
      have g3 : DataW.trod enc Try.prog W 0 spare held n 25 [c3] = some y3 := by
        simpa [Value.cells, cells_z0] using hg 3 _ rfl
      obtain ⟨l0, s0⟩ := trod_zI g0
      obtain ⟨l1, s1⟩ := trod_zB g1
      obtain ⟨l2, s2⟩ := trod_zL g2
      obtain ⟨l3, s3⟩ := trod_zI g3
      exact ⟨l0, l1, l2, l3, c0, c1, c2, c3, rfl, s0, s1, s2, s3⟩
end Go.Proofs.Ytpgclepiagfgfaa
