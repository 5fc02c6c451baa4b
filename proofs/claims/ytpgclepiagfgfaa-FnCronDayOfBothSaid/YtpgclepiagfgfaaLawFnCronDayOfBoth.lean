/- 'laws.FnCronDayOfBoth' returns true for every input: the row's step round the walk of YtpgclepiagfgfaaTzL. No condition. -/
import Derived.Test.YtpgclepiagfgfaaRows
import Derived.Test.YtpgclepiagfgfaaTzL
import Derived.WalkKit
import Derived.ProofKit
import Derived.OpenShut
import Derived.ShutString
import Derived.Below
namespace Go.Proofs.Ytpgclepiagfgfaa.fnCronDayOfBoth
open Go.ChangeShapes Go.WideShapes Go.ChangeAt Go.RowKit
open Go.ChangeMaps (open_string shut_string)
set_option linter.unusedVariables false

theorem own : ownKnob Try.prog.godebug = none := by kernel_rfl
theorem laidOut : laidOutB Try.prog = true := by kernel_rfl

theorem cells_t24 : Try.prog.cellsOf 24 = 2 := by kernel_rfl
theorem cells_f2 : Try.prog.cellsOf 2 = 1 := by kernel_rfl
theorem cells_f3 : Try.prog.cellsOf 3 = 1 := by kernel_rfl
set_option maxRecDepth 100000 in
theorem open_t24 {H : Type} {enc : TypeId × Value → H} {W : World} {base b0 : Nat} {spare : Nat → Bool} {held : Bool} {r : Reach} {v : Value} {d : DataW H} {p : List MemPlace} (hv : Value.okWide Try.prog W r b0 24 v) (h : DataW.Trod enc Try.prog W base spare held 24 v d p) :
    ∃ (x0 : Int) (x1 : Int), v = .agg #[.int .i64 x0, .int .i64 x1] ∧ (Lit.int .i64 x0).wf = true ∧ (Lit.int .i64 x1).wf = true := by
  obtain ⟨cs, rfl, hsz⟩ := okWide_struct Try.underlying24 hv
  obtain ⟨l⟩ := cs
  match l, hsz.trans cells_t24 with
  | [c0, c1], _ =>
    obtain ⟨fuel, hf⟩ := h
    obtain ⟨xs, n, _, _, _, hlen, hg⟩ := DataW.trod_struct Try.underlying24 hf
    match xs, hlen with
    | [y0, y1], _ =>
      have g0 : DataW.trod enc Try.prog W base spare held n 2 [c0] = some y0 := by
        simpa [Value.cells, cells_f2] using hg 0 _ rfl
      obtain ⟨x0, e0, _, w0⟩ := DataW.trod_int Try.underlying2 g0
      obtain rfl := (List.cons.inj e0).1
      have g1 : DataW.trod enc Try.prog W base spare held n 3 [c1] = some y1 := by
        simpa [Value.cells, cells_f3] using hg 1 _ rfl
      obtain ⟨x1, e1, _, w1⟩ := DataW.trod_int Try.underlying3 g1
      obtain rfl := (List.cons.inj e1).1
      exact ⟨x0, x1, rfl, w0, w1⟩

theorem walk (a0 : Int) (a1 : Int) (a2_0 : Int) (a2_1 : Int) (lo3 : List Int) (ld3 : List Bool) (lw3 li3 : List Int) (a3 : Value) (w0 : (Lit.int .u64 a0).wf = true) (w1 : (Lit.int .u64 a1).wf = true) (w2_0 : (Lit.int .i64 a2_0).wf = true) (w2_1 : (Lit.int .i64 a2_1).wf = true) (w : World) (s3 : ZoneAt w a3 lo3 ld3 lw3 li3) :
    Calls Try.prog 3 #[.int .u64 a0, .int .u64 a1, .agg #[.int .i64 a2_0, .int .i64 a2_1], a3] w fun e w' => e = .returned (.bool true) ∧ Below w.heap.size w w' := by
  exact law_dayOfBoth a0 a1 a2_0 a2_1 lo3 ld3 lw3 li3 a3 w0 w1 w2_0 w2_1 w s3

set_option maxRecDepth 100000 in
theorem lifted (os : Os) (started : os.Started) (H : Type) (enc : TypeId × Value → H) :
    ReturnsInHanded {} Try.checked os 3 .any (Rows.fnCronDayOfBothSpec.pre6 enc Try.prog Try.f3 Rows.fnCronDayOfBothRow.domain false) (Rows.fnCronDayOfBothSpec.post enc Try.prog Try.f3 false true false false) := by
  refine returnsInHanded_of_change (C := Try.checked) own started (by kernel_rfl) Try.func3
    (ChangeSpec.witness6 (enc := enc) (C := Try.checked) false ⟨#[], #[.int .u64 0, .int .u64 0, .agg #[.int .i64 0, .int .i64 0], .agg #[.slice none 0 0, .slice none 0 0, .slice none 0 0, .slice none 0 0]], []⟩ 8 (by kernel_rfl) (by kernel_rfl) (by kernel_rfl) (by kernel_rfl)) ?_
  intro W base args ds gs before hval0 hW hcnd _
  have hval : ∀ (j : Nat) t v, Try.f3.params[j]? = some t → args[j]? = some v → Value.okWide Try.prog W .any base t v := hval0
  have hW' := hW
  obtain ⟨p, q, hA0, hV, rfl, hfz, hnd⟩ := hW
  have hA : DataW.TrodAll enc Try.prog W 0 (fun _ => true) true Try.f3.params.toList args.toList ds p := hA0
  rw [Try.params3] at hA hval
  obtain ⟨v0, vs0, d0, ds0, p0, q0, hargs, rfl, rfl, h0, r0⟩ := trodAll_cons hA
  obtain ⟨v1, vs1, d1, ds1, p1, q1, rfl, rfl, rfl, h1, r1⟩ := trodAll_cons r0
  obtain ⟨v2, vs2, d2, ds2, p2, q2, rfl, rfl, rfl, h2, r2⟩ := trodAll_cons r1
  obtain ⟨v3, vs3, d3, ds3, p3, q3, rfl, rfl, rfl, h3, r3⟩ := trodAll_cons r2
  obtain ⟨rfl, rfl, rfl⟩ := trodAll_nil r3
  obtain rfl : args = #[v0, v1, v2, v3] := by cases args; simp_all
  obtain ⟨rfl, rfl⟩ := trodVars_none hV
  have k0 := h0
  have lt0 : ∀ x ∈ p0, x.block < W.heap.size := by obtain ⟨m, hm⟩ := k0; exact DataW.trod_lt m _ _ _ hm
  have k1 := h1
  have lt1 : ∀ x ∈ p1, x.block < W.heap.size := by obtain ⟨m, hm⟩ := k1; exact DataW.trod_lt m _ _ _ hm
  have k2 := h2
  have lt2 : ∀ x ∈ p2, x.block < W.heap.size := by obtain ⟨m, hm⟩ := k2; exact DataW.trod_lt m _ _ _ hm
  have k3 := h3
  have lt3 : ∀ x ∈ p3, x.block < W.heap.size := by obtain ⟨m, hm⟩ := k3; exact DataW.trod_lt m _ _ _ hm
  obtain ⟨a0, rfl, rfl, rfl, w0⟩ := open_int Try.underlying22 (hval 0 22 v0 rfl rfl) h0
  obtain ⟨a1, rfl, rfl, rfl, w1⟩ := open_int Try.underlying22 (hval 1 22 v1 rfl rfl) h1
  obtain ⟨a2_0, a2_1, rfl, w2_0, w2_1⟩ := open_t24 (hval 2 24 v2 rfl rfl) h2
  obtain ⟨lo3, ld3, lw3, li3, s3⟩ := open_zone (hval 3 29 v3 rfl rfl) h3
  clear hA0 hval0
  refine (walk a0 a1 a2_0 a2_1 lo3 ld3 lw3 li3 v3 w0 w1 w2_0 w2_1 W s3).mono fun e W' ⟨he, bel⟩ => ?_
  subst he
  exact ⟨_, rfl, _, _, _, [], _, [], hW', trodAll_mk1 (shut_bool Try.underlying4 _), (trodAll_cons_mk (Below.trod laidOut (by kernel_rfl) (of_decide_eq_true (by kernel_rfl)) k0 bel lt0) (trodAll_cons_mk (Below.trod laidOut (by kernel_rfl) (of_decide_eq_true (by kernel_rfl)) k1 bel lt1) (trodAll_cons_mk (Below.trod laidOut (by kernel_rfl) (of_decide_eq_true (by kernel_rfl)) k2 bel lt2) (trodAll_cons_mk (Below.trod laidOut (by kernel_rfl) (of_decide_eq_true (by kernel_rfl)) k3 bel lt3) trodAll_mk0)))), rfl, bel.frame _, fun h => by cases h⟩

theorem over : Rows.fnCronDayOfBothRow.holds Try.pinned (OpenSpec.ofChange Rows.fnCronDayOfBothSpec) :=
  OpenClaim.holds_of_wide 3 Try.f3 rfl rfl rfl rfl rfl rfl rfl ⟨rfl, rfl, rfl, rfl, rfl⟩ rfl rfl rfl rfl rfl (by kernel_rfl) Try.func3 (by kernel_rfl)
    (of_decide_eq_true (by kernel_rfl)) (by unfold Func.isWrapper; first | (rw [if_pos (by decide +kernel)]; kernel_rfl) | (rw [if_neg (by decide +kernel)]; exact ⟨rfl, rfl⟩))
    (fun os started H enc _ => lifted os started H enc)

theorem proved : Rows.FnCronDayOfBothSaid := over
end Go.Proofs.Ytpgclepiagfgfaa.fnCronDayOfBoth
