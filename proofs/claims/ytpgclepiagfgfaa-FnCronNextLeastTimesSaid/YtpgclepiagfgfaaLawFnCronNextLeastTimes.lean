/- 'laws.FnCronNextLeastTimes' returns true for every input: the row's step round the walk of YtpgclepiagfgfaaTsZL. No condition. -/
import Derived.Test.YtpgclepiagfgfaaRows
import Derived.Test.YtpgclepiagfgfaaTsZL
import Derived.WalkKit
import Derived.ProofKit
import Derived.OpenShut
import Derived.ShutString
import Derived.Below
namespace Go.Proofs.Ytpgclepiagfgfaa.fnCronNextLeastTimes
open Go.ChangeShapes Go.WideShapes Go.ChangeAt Go.RowKit
open Go.ChangeMaps (open_string shut_string)
set_option linter.unusedVariables false

theorem own : ownKnob Try.prog.godebug = none := by kernel_rfl
theorem laidOut : laidOutB Try.prog = true := by kernel_rfl

theorem cells_t38 : Try.prog.cellsOf 38 = 8 := by kernel_rfl
theorem cells_f2 : Try.prog.cellsOf 2 = 1 := by kernel_rfl
theorem cells_f22 : Try.prog.cellsOf 22 = 1 := by kernel_rfl
theorem cells_f4 : Try.prog.cellsOf 4 = 1 := by kernel_rfl
set_option maxRecDepth 100000 in
theorem open_t38 {H : Type} {enc : TypeId × Value → H} {W : World} {base b0 : Nat} {spare : Nat → Bool} {held : Bool} {r : Reach} {v : Value} {d : DataW H} {p : List MemPlace} (hv : Value.okWide Try.prog W r b0 38 v) (h : DataW.Trod enc Try.prog W base spare held 38 v d p) :
    ∃ (x0 : Bool) (x1 : Int) (x2 : Int) (x3 : Int) (x4 : Int) (x5 : Int) (x6 : Int) (x7 : Int), v = .agg #[.bool x0, .int .i64 x1, .int .u64 x2, .int .u64 x3, .int .u64 x4, .int .u64 x5, .int .u64 x6, .int .u64 x7] ∧ (Lit.int .i64 x1).wf = true ∧ (Lit.int .u64 x2).wf = true ∧ (Lit.int .u64 x3).wf = true ∧ (Lit.int .u64 x4).wf = true ∧ (Lit.int .u64 x5).wf = true ∧ (Lit.int .u64 x6).wf = true ∧ (Lit.int .u64 x7).wf = true := by
  obtain ⟨cs, rfl, hsz⟩ := okWide_struct Try.underlying38 hv
  obtain ⟨l⟩ := cs
  match l, hsz.trans cells_t38 with
  | [c0, c1, c2, c3, c4, c5, c6, c7], _ =>
    obtain ⟨fuel, hf⟩ := h
    obtain ⟨xs, n, _, _, _, hlen, hg⟩ := DataW.trod_struct Try.underlying38 hf
    match xs, hlen with
    | [y0, y1, y2, y3, y4, y5, y6, y7], _ =>
      have g0 : DataW.trod enc Try.prog W base spare held n 4 [c0] = some y0 := by
        simpa [Value.cells, cells_f4] using hg 0 _ rfl
      obtain ⟨x0, e0, _⟩ := DataW.trod_bool Try.underlying4 g0
      obtain rfl := (List.cons.inj e0).1
      have g1 : DataW.trod enc Try.prog W base spare held n 2 [c1] = some y1 := by
        simpa [Value.cells, cells_f2] using hg 1 _ rfl
      obtain ⟨x1, e1, _, w1⟩ := DataW.trod_int Try.underlying2 g1
      obtain rfl := (List.cons.inj e1).1
      have g2 : DataW.trod enc Try.prog W base spare held n 22 [c2] = some y2 := by
        simpa [Value.cells, cells_f22] using hg 2 _ rfl
      obtain ⟨x2, e2, _, w2⟩ := DataW.trod_int Try.underlying22 g2
      obtain rfl := (List.cons.inj e2).1
      have g3 : DataW.trod enc Try.prog W base spare held n 22 [c3] = some y3 := by
        simpa [Value.cells, cells_f22] using hg 3 _ rfl
      obtain ⟨x3, e3, _, w3⟩ := DataW.trod_int Try.underlying22 g3
      obtain rfl := (List.cons.inj e3).1
      have g4 : DataW.trod enc Try.prog W base spare held n 22 [c4] = some y4 := by
        simpa [Value.cells, cells_f22] using hg 4 _ rfl
      obtain ⟨x4, e4, _, w4⟩ := DataW.trod_int Try.underlying22 g4
      obtain rfl := (List.cons.inj e4).1
      have g5 : DataW.trod enc Try.prog W base spare held n 22 [c5] = some y5 := by
        simpa [Value.cells, cells_f22] using hg 5 _ rfl
      obtain ⟨x5, e5, _, w5⟩ := DataW.trod_int Try.underlying22 g5
      obtain rfl := (List.cons.inj e5).1
      have g6 : DataW.trod enc Try.prog W base spare held n 22 [c6] = some y6 := by
        simpa [Value.cells, cells_f22] using hg 6 _ rfl
      obtain ⟨x6, e6, _, w6⟩ := DataW.trod_int Try.underlying22 g6
      obtain rfl := (List.cons.inj e6).1
      have g7 : DataW.trod enc Try.prog W base spare held n 22 [c7] = some y7 := by
        simpa [Value.cells, cells_f22] using hg 7 _ rfl
      obtain ⟨x7, e7, _, w7⟩ := DataW.trod_int Try.underlying22 g7
      obtain rfl := (List.cons.inj e7).1
      exact ⟨x0, x1, x2, x3, x4, x5, x6, x7, rfl, w1, w2, w3, w4, w5, w6, w7⟩

theorem cells_t24 : Try.prog.cellsOf 24 = 2 := by kernel_rfl
theorem cells_f3 : Try.prog.cellsOf 3 = 1 := by kernel_rfl
set_option maxRecDepth 100000 in
theorem open_t24 {H : Type} {enc : TypeId × Value → H} {W : World} {base b0 : Nat} {spare : Nat → Bool} {held : Bool} {r : Reach} {v : Value} {d : DataW H} {p : List MemPlace} (hv : Value.okWide Try.prog W r b0 24 v) (h : DataW.Trod enc Try.prog W base spare held 24 v d p) :
    ∃ (x0 : Int) (x1 : Int), v = .agg #[.int .i64 x0, .int .i64 x1] ∧ (Lit.int .i64 x0).wf = true ∧ (Lit.int .i64 x1).wf = true := by
  obtain ⟨cs, rfl, hsz⟩ := okWide_struct Try.underlying24 hv
  obtain ⟨l⟩ := cs
  match l, hsz.trans cells_t24 with
  | [c0, c1], _ =>
    obtain ⟨fuel, hf⟩ := h
    obtain ⟨xs, n, _, _, _, hlen, hg⟩ := DataW.trod_struct Try.underlying24 hf
    match xs, hlen with
    | [y0, y1], _ =>
      have g0 : DataW.trod enc Try.prog W base spare held n 2 [c0] = some y0 := by
        simpa [Value.cells, cells_f2] using hg 0 _ rfl
      obtain ⟨x0, e0, _, w0⟩ := DataW.trod_int Try.underlying2 g0
      obtain rfl := (List.cons.inj e0).1
      have g1 : DataW.trod enc Try.prog W base spare held n 3 [c1] = some y1 := by
        simpa [Value.cells, cells_f3] using hg 1 _ rfl
      obtain ⟨x1, e1, _, w1⟩ := DataW.trod_int Try.underlying3 g1
      obtain rfl := (List.cons.inj e1).1
      exact ⟨x0, x1, rfl, w0, w1⟩

theorem walk (a0_0 : Bool) (a0_1 : Int) (a0_2 : Int) (a0_3 : Int) (a0_4 : Int) (a0_5 : Int) (a0_6 : Int) (a0_7 : Int) (a1_0 : Int) (a1_1 : Int) (w0_1 : (Lit.int .i64 a0_1).wf = true) (w0_2 : (Lit.int .u64 a0_2).wf = true) (w0_3 : (Lit.int .u64 a0_3).wf = true) (w0_4 : (Lit.int .u64 a0_4).wf = true) (w0_5 : (Lit.int .u64 a0_5).wf = true) (w0_6 : (Lit.int .u64 a0_6).wf = true) (w0_7 : (Lit.int .u64 a0_7).wf = true) (w1_0 : (Lit.int .i64 a1_0).wf = true) (w1_1 : (Lit.int .i64 a1_1).wf = true) (w : World) :
    Calls Try.prog 5 #[.agg #[.bool a0_0, .int .i64 a0_1, .int .u64 a0_2, .int .u64 a0_3, .int .u64 a0_4, .int .u64 a0_5, .int .u64 a0_6, .int .u64 a0_7], .agg #[.int .i64 a1_0, .int .i64 a1_1]] w fun e w' => e = .returned (.bool true) ∧ Below w.heap.size w w' := by
  exact law_least a0_0 a0_1 a0_2 a0_3 a0_4 a0_5 a0_6 a0_7 a1_0 a1_1 w0_1 w0_2 w0_3 w0_4 w0_5 w0_6 w0_7 w1_0 w1_1 w

set_option maxRecDepth 100000 in
theorem lifted (os : Os) (started : os.Started) (H : Type) (enc : TypeId × Value → H) :
    ReturnsInHanded {} Try.checked os 5 .any (Rows.fnCronNextLeastTimesSpec.pre6 enc Try.prog Try.f5 Rows.fnCronNextLeastTimesRow.domain false) (Rows.fnCronNextLeastTimesSpec.post enc Try.prog Try.f5 false true false false) := by
  refine returnsInHanded_of_change (C := Try.checked) own started (by kernel_rfl) Try.func5
    (ChangeSpec.witness6 (enc := enc) (C := Try.checked) false ⟨#[], #[.agg #[.bool false, .int .i64 0, .int .u64 0, .int .u64 0, .int .u64 0, .int .u64 0, .int .u64 0, .int .u64 0], .agg #[.int .i64 0, .int .i64 0]], []⟩ 8 (by kernel_rfl) (by kernel_rfl) (by kernel_rfl) (by kernel_rfl)) ?_
  intro W base args ds gs before hval0 hW hcnd _
  have hval : ∀ (j : Nat) t v, Try.f5.params[j]? = some t → args[j]? = some v → Value.okWide Try.prog W .any base t v := hval0
  have hW' := hW
  obtain ⟨p, q, hA0, hV, rfl, hfz, hnd⟩ := hW
  have hA : DataW.TrodAll enc Try.prog W 0 (fun _ => true) true Try.f5.params.toList args.toList ds p := hA0
  rw [Try.params5] at hA hval
  obtain ⟨v0, vs0, d0, ds0, p0, q0, hargs, rfl, rfl, h0, r0⟩ := trodAll_cons hA
  obtain ⟨v1, vs1, d1, ds1, p1, q1, rfl, rfl, rfl, h1, r1⟩ := trodAll_cons r0
  obtain ⟨rfl, rfl, rfl⟩ := trodAll_nil r1
  obtain rfl : args = #[v0, v1] := by cases args; simp_all
  obtain ⟨rfl, rfl⟩ := trodVars_none hV
  have k0 := h0
  have lt0 : ∀ x ∈ p0, x.block < W.heap.size := by obtain ⟨m, hm⟩ := k0; exact DataW.trod_lt m _ _ _ hm
  have k1 := h1
  have lt1 : ∀ x ∈ p1, x.block < W.heap.size := by obtain ⟨m, hm⟩ := k1; exact DataW.trod_lt m _ _ _ hm
  obtain ⟨a0_0, a0_1, a0_2, a0_3, a0_4, a0_5, a0_6, a0_7, rfl, w0_1, w0_2, w0_3, w0_4, w0_5, w0_6, w0_7⟩ := open_t38 (hval 0 38 v0 rfl rfl) h0
  obtain ⟨a1_0, a1_1, rfl, w1_0, w1_1⟩ := open_t24 (hval 1 24 v1 rfl rfl) h1
  clear hA0 hval0
  refine (walk a0_0 a0_1 a0_2 a0_3 a0_4 a0_5 a0_6 a0_7 a1_0 a1_1 w0_1 w0_2 w0_3 w0_4 w0_5 w0_6 w0_7 w1_0 w1_1 W).mono fun e W' ⟨he, bel⟩ => ?_
  subst he
  exact ⟨_, rfl, _, _, _, [], _, [], hW', trodAll_mk1 (shut_bool Try.underlying4 _), (trodAll_cons_mk (Below.trod laidOut (by kernel_rfl) (of_decide_eq_true (by kernel_rfl)) k0 bel lt0) (trodAll_cons_mk (Below.trod laidOut (by kernel_rfl) (of_decide_eq_true (by kernel_rfl)) k1 bel lt1) trodAll_mk0)), rfl, bel.frame _, fun h => by cases h⟩

theorem over : Rows.fnCronNextLeastTimesRow.holds Try.pinned (OpenSpec.ofChange Rows.fnCronNextLeastTimesSpec) :=
  OpenClaim.holds_of_wide 5 Try.f5 rfl rfl rfl rfl rfl rfl rfl ⟨rfl, rfl, rfl, rfl, rfl⟩ rfl rfl rfl rfl rfl (by kernel_rfl) Try.func5 (by kernel_rfl)
    (of_decide_eq_true (by kernel_rfl)) (by unfold Func.isWrapper; first | (rw [if_pos (by decide +kernel)]; kernel_rfl) | (rw [if_neg (by decide +kernel)]; exact ⟨rfl, rfl⟩))
    (fun os started H enc _ => lifted os started H enc)

theorem proved : Rows.FnCronNextLeastTimesSaid := over
end Go.Proofs.Ytpgclepiagfgfaa.fnCronNextLeastTimes
