/- 'laws.FnCronWeeklyAt' returns true for every input: the row's step round the walk of YtkhggefbkhdimaaGreatDoorWaQ, and the card. -/
import Derived.Test.YtkhggefbkhdimaaGreatDoorRows
import Derived.Test.YtkhggefbkhdimaaGreatDoorCards
import Derived.Test.YtkhggefbkhdimaaGreatDoorTie
import Derived.Test.YtkhggefbkhdimaaGreatDoorWaQ
import Derived.Test.YtkhggefbkhdimaaGreatDoorLaidErr
import Derived.WalkKit
import Derived.ProofKit
import Derived.OpenShut
import Derived.ShutString
import Derived.Below
import Derived.LaidMore
import Derived.Lay
import Derived.MakeChecks
import Derived.Stop.Joined
import Derived.SevenTiedAt
namespace Go.Proofs.YtkhggefbkhdimaaGreatDoor.fnCronWeeklyAt
open Go.ChangeShapes Go.WideShapes Go.ChangeAt Go.RowKit
open Go.ChangeMaps (open_string shut_string)
set_option linter.unusedVariables false

theorem own : ownKnob Tryz.prog.godebug = none := by kernel_rfl
theorem laidOut : laidOutB Tryz.prog = true := by kernel_rfl

theorem cells_t48 : Tryz.prog.cellsOf 48 = 2 := by kernel_rfl
theorem cells_f2 : Tryz.prog.cellsOf 2 = 1 := by kernel_rfl
theorem cells_f3 : Tryz.prog.cellsOf 3 = 1 := by kernel_rfl
set_option maxRecDepth 100000 in
theorem open_t48 {H : Type} {enc : TypeId × Value → H} {W : World} {base b0 : Nat} {spare : Nat → Bool} {held : Bool} {r : Reach} {v : Value} {d : DataW H} {p : List MemPlace} (hv : Value.okWide Tryz.prog W r b0 48 v) (h : DataW.Trod enc Tryz.prog W base spare held 48 v d p) :
    ∃ (x0 : Int) (x1 : Int), v = .agg #[.int .i64 x0, .int .i64 x1] ∧ (Lit.int .i64 x0).wf = true ∧ (Lit.int .i64 x1).wf = true := by
  obtain ⟨cs, rfl, hsz⟩ := okWide_struct Tryz.underlying48 hv
  obtain ⟨l⟩ := cs
  match l, hsz.trans cells_t48 with
  | [c0, c1], _ =>
    obtain ⟨fuel, hf⟩ := h
    obtain ⟨xs, n, _, _, _, hlen, hg⟩ := DataW.trod_struct Tryz.underlying48 hf
    match xs, hlen with
    | [y0, y1], _ =>
      have g0 : DataW.trod enc Tryz.prog W base spare held n 2 [c0] = some y0 := by
        simpa [Value.cells, cells_f2] using hg 0 _ rfl
      obtain ⟨x0, e0, _, w0⟩ := DataW.trod_int Tryz.underlying2 g0
      obtain rfl := (List.cons.inj e0).1
      have g1 : DataW.trod enc Tryz.prog W base spare held n 3 [c1] = some y1 := by
        simpa [Value.cells, cells_f3] using hg 1 _ rfl
      obtain ⟨x1, e1, _, w1⟩ := DataW.trod_int Tryz.underlying3 g1
      obtain rfl := (List.cons.inj e1).1
      exact ⟨x0, x1, rfl, w0, w1⟩

theorem walk (a0 : Int) (a1 : Int) (a2 : Int) (a3_0 : Int) (a3_1 : Int) (w0 : (Lit.int .i64 a0).wf = true) (w1 : (Lit.int .i64 a1).wf = true) (w2 : (Lit.int .i64 a2).wf = true) (w3_0 : (Lit.int .i64 a3_0).wf = true) (w3_1 : (Lit.int .i64 a3_1).wf = true) (w : World) (he : Hid (Errs w)) :
    Calls Tryz.prog 5 #[.int .i64 a0, .int .i64 a1, .int .i64 a2, .agg #[.int .i64 a3_0, .int .i64 a3_1]] w fun e w' => e = .returned (.bool true) ∧ Below w.heap.size w w' := by
  exact law_weekly a0 a1 a2 a3_0 a3_1 w0 w1 w2 w3_0 w3_1 w he

set_option maxRecDepth 100000 in
theorem lifted (os : Os) (started : os.Started) (H : Type) (enc : TypeId × Value → H) :
    ReturnsInHanded {} Tryz.checked os 5 .any (fun w args => (Rows.fnCronWeeklyAtSpec.pre enc Tryz.prog Tryz.f5 [] false w args ∧ laidMetH Tryz.prog laidT w) ∧ sizedMet enc Tryz.prog Tryz.f5 (OpenSpec.ofChange Rows.fnCronWeeklyAtSpec) false w args) (Rows.fnCronWeeklyAtSpec.post enc Tryz.prog Tryz.f5 false true false false) := by
  refine returnsInHanded_of_change_and (C := Tryz.checked) (X := fun w _ => laidMetH Tryz.prog laidT w) (fun _ _ _ hh h => h.of_heap hh) own started (by kernel_rfl) Tryz.func5
    (ChangeSpec.witness_shaped (enc := enc) (C := Tryz.checked) (os := os) (X := fun w _ => laidMetH Tryz.prog laidT w) false (World.laidAll Tryz.prog os laidT) #[.int .i64 0, .int .i64 0, .int .i64 0, .agg #[.int .i64 0, .int .i64 0]] 8 (World.laidAll_os _ _ _) (World.shaped_of_ZipB (by kernel_rfl) (by kernel_rfl)) (by kernel_rfl) (by kernel_rfl) (by kernel_rfl) (by rw [MakeChecks.laidMetH_plain _ _ _ (by kernel_rfl)]; exact laidMet_laidAll _ (by kernel_rfl) (by kernel_rfl))) ?_
  intro W base args ds gs before hval0 hW _ _ hL _
  have hval : ∀ (j : Nat) t v, Tryz.f5.params[j]? = some t → args[j]? = some v → Value.okWide Tryz.prog W .any base t v := hval0
  have hW' := hW
  obtain ⟨p, q, hA0, hV, rfl, hfz, hnd⟩ := hW
  have hA : DataW.TrodAll enc Tryz.prog W 0 (fun _ => true) true Tryz.f5.params.toList args.toList ds p := hA0
  rw [Tryz.params5] at hA hval
  obtain ⟨v0, vs0, d0, ds0, p0, q0, hargs, rfl, rfl, h0, r0⟩ := trodAll_cons hA
  obtain ⟨v1, vs1, d1, ds1, p1, q1, rfl, rfl, rfl, h1, r1⟩ := trodAll_cons r0
  obtain ⟨v2, vs2, d2, ds2, p2, q2, rfl, rfl, rfl, h2, r2⟩ := trodAll_cons r1
  obtain ⟨v3, vs3, d3, ds3, p3, q3, rfl, rfl, rfl, h3, r3⟩ := trodAll_cons r2
  obtain ⟨rfl, rfl, rfl⟩ := trodAll_nil r3
  obtain rfl : args = #[v0, v1, v2, v3] := by cases args; simp_all
  obtain ⟨rfl, rfl⟩ := trodVars_none hV
  have k0 := h0
  have lt0 : ∀ x ∈ p0, x.block < W.heap.size := by obtain ⟨m, hm⟩ := k0; exact DataW.trod_lt m _ _ _ hm
  have k1 := h1
  have lt1 : ∀ x ∈ p1, x.block < W.heap.size := by obtain ⟨m, hm⟩ := k1; exact DataW.trod_lt m _ _ _ hm
  have k2 := h2
  have lt2 : ∀ x ∈ p2, x.block < W.heap.size := by obtain ⟨m, hm⟩ := k2; exact DataW.trod_lt m _ _ _ hm
  have k3 := h3
  have lt3 : ∀ x ∈ p3, x.block < W.heap.size := by obtain ⟨m, hm⟩ := k3; exact DataW.trod_lt m _ _ _ hm
  obtain ⟨a0, rfl, rfl, rfl, w0⟩ := open_int Tryz.underlying3 (hval 0 3 v0 rfl rfl) h0
  obtain ⟨a1, rfl, rfl, rfl, w1⟩ := open_int Tryz.underlying3 (hval 1 3 v1 rfl rfl) h1
  obtain ⟨a2, rfl, rfl, rfl, w2⟩ := open_int Tryz.underlying3 (hval 2 3 v2 rfl rfl) h2
  obtain ⟨a3_0, a3_1, rfl, w3_0, w3_1⟩ := open_t48 (hval 3 48 v3 rfl rfl) h3
  clear hA0 hval0
  refine (walk a0 a1 a2 a3_0 a3_1 w0 w1 w2 w3_0 w3_1 W (Lib.hid (errs_of_laid hL))).mono fun e W' ⟨he, bel⟩ => ?_
  subst he
  exact ⟨_, rfl, _, _, _, [], _, [], hW', trodAll_mk1 (shut_bool Tryz.underlying4 _), (trodAll_cons_mk (Below.trod laidOut (by kernel_rfl) (of_decide_eq_true (by kernel_rfl)) k0 bel lt0) (trodAll_cons_mk (Below.trod laidOut (by kernel_rfl) (of_decide_eq_true (by kernel_rfl)) k1 bel lt1) (trodAll_cons_mk (Below.trod laidOut (by kernel_rfl) (of_decide_eq_true (by kernel_rfl)) k2 bel lt2) (trodAll_cons_mk (Below.trod laidOut (by kernel_rfl) (of_decide_eq_true (by kernel_rfl)) k3 bel lt3) trodAll_mk0)))), rfl, bel.frame _, fun h => by cases h⟩

theorem over : Rows.FnCronWeeklyAtSaid :=
  OpenClaim.holds_of_wide 5 Tryz.f5 rfl rfl rfl rfl rfl rfl rfl ⟨rfl, rfl, rfl, rfl, rfl⟩ rfl rfl rfl rfl rfl (by kernel_rfl) Tryz.func5 (by kernel_rfl)
    (of_decide_eq_true (by kernel_rfl)) (by unfold Func.isWrapper; first | (rw [if_pos (by decide +kernel)]; kernel_rfl) | (rw [if_neg (by decide +kernel)]; exact ⟨rfl, rfl⟩))
    (fun os started H enc _ => lifted os started H enc)

theorem proved : Rows.FnCronWeeklyAtCardSaid :=
  Claim7.holds_tied_plain_at .later [] [.data, .data, .data, .data, .sentinel, .sentinel, .sentinel, .sentinel, .pinned] true (true, "c3f1ee938e30186c8c35adb4a2fd3730c2dd8d35c7874db3ca174106417b3c51") true
    over (fun _ h => by cases h) (by kernel_rfl) (fun _ h => by cases h) fnCronWeeklyAt_row_tie rfl ⟨rfl, rfl⟩ (by kernel_rfl) rfl
    (fun f fn hf hfn => by
      obtain rfl : f = 5 := Option.some.inj ((show Tryz.prog.funcNamed "pub-timebook/laws.FnCronWeeklyAt" = some 5 by kernel_rfl).symm.trans hf) |>.symm
      obtain rfl : fn = Tryz.f5 := (Option.some.inj (Tryz.func5.symm.trans hfn)).symm
      exact ⟨by kernel_rfl, fun j t ht => by
        rw [Tryz.params5] at ht
        have hm : t ∈ [3, 3, 3, 48] := by simpa using Array.mem_of_getElem? ht
        have hall : ([3, 3, 3, 48].all fun u => !Tryz.prog.wantsStandIn u) = true := by kernel_rfl
        exact (show Tryz.prog.wantsStandIn t = false by simpa using List.all_eq_true.1 hall t hm)⟩)
    (by kernel_rfl)
#print axioms proved
end Go.Proofs.YtkhggefbkhdimaaGreatDoor.fnCronWeeklyAt
