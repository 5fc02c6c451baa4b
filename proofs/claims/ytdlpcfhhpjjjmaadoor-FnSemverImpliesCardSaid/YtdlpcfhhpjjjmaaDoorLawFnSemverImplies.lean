/- 'laws.FnSemverImplies' returns true for every input: the row's step round the walk of YtdlpcfhhpjjjmaaDoorImQ, and the card. -/
import Derived.Test.YtdlpcfhhpjjjmaaDoorRows
import Derived.Test.YtdlpcfhhpjjjmaaDoorCards
import Derived.Test.YtdlpcfhhpjjjmaaDoorTie
import Derived.Test.YtdlpcfhhpjjjmaaDoorImQ
import Derived.Test.YtdlpcfhhpjjjmaaDoorLaidErr
import Derived.WalkKit
import Derived.ProofKit
import Derived.OpenShut
import Derived.ShutString
import Derived.Below
import Derived.LaidMore
import Derived.Stop.Joined
import Derived.SevenTiedAt
namespace Go.Proofs.YtdlpcfhhpjjjmaaDoor.fnSemverImplies
open Go.ChangeShapes Go.WideShapes Go.ChangeAt Go.RowKit
open Go.ChangeMaps (open_string shut_string)
set_option linter.unusedVariables false

theorem own : ownKnob Tryd.prog.godebug = none := by kernel_rfl
theorem laidOut : laidOutB Tryd.prog = true := by kernel_rfl

theorem cells_t25 : Tryd.prog.cellsOf 25 = 5 := by kernel_rfl
theorem cells_f23 : Tryd.prog.cellsOf 23 = 1 := by kernel_rfl
theorem cells_f9 : Tryd.prog.cellsOf 9 = 1 := by kernel_rfl
set_option maxRecDepth 100000 in
theorem open_t25 {H : Type} {enc : TypeId × Value → H} {W : World} {base b0 : Nat} {spare : Nat → Bool} {held : Bool} {r : Reach} {v : Value} {d : DataW H} {p : List MemPlace} (hv : Value.okWide Tryd.prog W r b0 25 v) (h : DataW.Trod enc Tryd.prog W base spare held 25 v d p) :
    ∃ (x0 : Int) (x1 : Int) (x2 : Int) (x3 : ByteArray) (x4 : ByteArray), v = .agg #[.int .u64 x0, .int .u64 x1, .int .u64 x2, .string x3, .string x4] ∧ (Lit.int .u64 x0).wf = true ∧ (Lit.int .u64 x1).wf = true ∧ (Lit.int .u64 x2).wf = true ∧ x3.size ≤ maxLen ∧ x4.size ≤ maxLen := by
  obtain ⟨cs, rfl, hsz⟩ := okWide_struct Tryd.underlying25 hv
  obtain ⟨l⟩ := cs
  match l, hsz.trans cells_t25 with
  | [c0, c1, c2, c3, c4], _ =>
    obtain ⟨fuel, hf⟩ := h
    obtain ⟨xs, n, _, _, _, hlen, hg⟩ := DataW.trod_struct Tryd.underlying25 hf
    match xs, hlen with
    | [y0, y1, y2, y3, y4], _ =>
      have g0 : DataW.trod enc Tryd.prog W base spare held n 23 [c0] = some y0 := by
        simpa [Value.cells, cells_f23] using hg 0 _ rfl
      obtain ⟨x0, e0, _, w0⟩ := DataW.trod_int Tryd.underlying23 g0
      obtain rfl := (List.cons.inj e0).1
      have g1 : DataW.trod enc Tryd.prog W base spare held n 23 [c1] = some y1 := by
        simpa [Value.cells, cells_f23] using hg 1 _ rfl
      obtain ⟨x1, e1, _, w1⟩ := DataW.trod_int Tryd.underlying23 g1
      obtain rfl := (List.cons.inj e1).1
      have g2 : DataW.trod enc Tryd.prog W base spare held n 23 [c2] = some y2 := by
        simpa [Value.cells, cells_f23] using hg 2 _ rfl
      obtain ⟨x2, e2, _, w2⟩ := DataW.trod_int Tryd.underlying23 g2
      obtain rfl := (List.cons.inj e2).1
      have g3 : DataW.trod enc Tryd.prog W base spare held n 9 [c3] = some y3 := by
        simpa [Value.cells, cells_f9] using hg 3 _ rfl
      obtain ⟨x3, e3, _, w3⟩ := DataW.trod_string Tryd.underlying9 g3
      obtain rfl := (List.cons.inj e3).1
      have g4 : DataW.trod enc Tryd.prog W base spare held n 9 [c4] = some y4 := by
        simpa [Value.cells, cells_f9] using hg 4 _ rfl
      obtain ⟨x4, e4, _, w4⟩ := DataW.trod_string Tryd.underlying9 g4
      obtain rfl := (List.cons.inj e4).1
      exact ⟨x0, x1, x2, x3, x4, rfl, w0, w1, w2, w3, w4⟩

theorem walk (l0 : List (List Tm)) (a0 : Value) (l1 : List (List Tm)) (a1 : Value) (a2_0 : Int) (a2_1 : Int) (a2_2 : Int) (a2_3 : ByteArray) (a2_4 : ByteArray) (w2_0 : (Lit.int .u64 a2_0).wf = true) (w2_1 : (Lit.int .u64 a2_1).wf = true) (w2_2 : (Lit.int .u64 a2_2).wf = true) (w2_3 : a2_3.size ≤ maxLen) (w2_4 : a2_4.size ≤ maxLen) (w : World) (he : Hid (Errs w)) (s0 : SlOf RTms 1 w a0 l0) (n0 : ∀ l ∈ l0, ∀ t ∈ l, NumT t) (s1 : SlOf RTms 1 w a1 l1) (n1 : ∀ l ∈ l1, ∀ t ∈ l, NumT t) :
    Calls Tryd.prog 12 #[a0, a1, .agg #[.int .u64 a2_0, .int .u64 a2_1, .int .u64 a2_2, .string a2_3, .string a2_4]] w fun e w' => e = .returned (.bool true) ∧ Below w.heap.size w w' := by
  exact imply_law l0 a0 l1 a1 a2_0 a2_1 a2_2 a2_3 a2_4 w2_0 w2_1 w2_2 w2_3 w2_4 w he s0 n0 s1 n1

set_option maxRecDepth 100000 in
theorem lifted (os : Os) (started : os.Started) (H : Type) (enc : TypeId × Value → H) :
    ReturnsInHanded {} Tryd.checked os 12 .any (fun w args => (Rows.fnSemverImpliesSpec.pre enc Tryd.prog Tryd.f12 [] false w args ∧ laidMetH Tryd.prog laidL w) ∧ sizedMet enc Tryd.prog Tryd.f12 (OpenSpec.ofChange Rows.fnSemverImpliesSpec) false w args) (Rows.fnSemverImpliesSpec.post enc Tryd.prog Tryd.f12 false true false false) := by
  refine returnsInHanded_of_change_and (C := Tryd.checked) (X := fun w _ => laidMetH Tryd.prog laidL w) (fun _ _ _ hh h => h.of_heap hh) own started (by kernel_rfl) Tryd.func12
    (ChangeSpec.witness_shaped (enc := enc) (C := Tryd.checked) (os := os) (X := fun w _ => laidMetH Tryd.prog laidL w) false (World.doorLaid Tryd.prog 400 os) #[.slice none 0 0, .slice none 0 0, .agg #[.int .u64 0, .int .u64 0, .int .u64 0, .string ⟨#[]⟩, .string ⟨#[]⟩]] 8 rfl (World.shaped_of_RefB (by kernel_rfl) (by kernel_rfl)) (by kernel_rfl) (by kernel_rfl) (by kernel_rfl) (door_met os _)) ?_
  intro W base args ds gs before hval0 hW _ _ hL _
  have hval : ∀ (j : Nat) t v, Tryd.f12.params[j]? = some t → args[j]? = some v → Value.okWide Tryd.prog W .any base t v := hval0
  have hW' := hW
  obtain ⟨p, q, hA0, hV, rfl, hfz, hnd⟩ := hW
  have hA : DataW.TrodAll enc Tryd.prog W 0 (fun _ => true) true Tryd.f12.params.toList args.toList ds p := hA0
  rw [Tryd.params12] at hA hval
  obtain ⟨v0, vs0, d0, ds0, p0, q0, hargs, rfl, rfl, h0, r0⟩ := trodAll_cons hA
  obtain ⟨v1, vs1, d1, ds1, p1, q1, rfl, rfl, rfl, h1, r1⟩ := trodAll_cons r0
  obtain ⟨v2, vs2, d2, ds2, p2, q2, rfl, rfl, rfl, h2, r2⟩ := trodAll_cons r1
  obtain ⟨rfl, rfl, rfl⟩ := trodAll_nil r2
  obtain rfl : args = #[v0, v1, v2] := by cases args; simp_all
  obtain ⟨rfl, rfl⟩ := trodVars_none hV
  have k0 := h0
  have lt0 : ∀ x ∈ p0, x.block < W.heap.size := by obtain ⟨m, hm⟩ := k0; exact DataW.trod_lt m _ _ _ hm
  have k1 := h1
  have lt1 : ∀ x ∈ p1, x.block < W.heap.size := by obtain ⟨m, hm⟩ := k1; exact DataW.trod_lt m _ _ _ hm
  have k2 := h2
  have lt2 : ∀ x ∈ p2, x.block < W.heap.size := by obtain ⟨m, hm⟩ := k2; exact DataW.trod_lt m _ _ _ hm
  obtain ⟨l0, s0, n0⟩ := open_tmss (hval 0 50 v0 rfl rfl) h0
  obtain ⟨l1, s1, n1⟩ := open_tmss (hval 1 50 v1 rfl rfl) h1
  obtain ⟨a2_0, a2_1, a2_2, a2_3, a2_4, rfl, w2_0, w2_1, w2_2, w2_3, w2_4⟩ := open_t25 (hval 2 25 v2 rfl rfl) h2
  clear hA0 hval0
  refine (walk l0 v0 l1 v1 a2_0 a2_1 a2_2 a2_3 a2_4 w2_0 w2_1 w2_2 w2_3 w2_4 W (Lib.hid (errs_of_laid hL)) s0 n0 s1 n1).mono fun e W' ⟨he, bel⟩ => ?_
  subst he
  exact ⟨_, rfl, _, _, _, [], _, [], hW', trodAll_mk1 (shut_bool Tryd.underlying4 _), (trodAll_cons_mk (Below.trod laidOut (by kernel_rfl) (of_decide_eq_true (by kernel_rfl)) k0 bel lt0) (trodAll_cons_mk (Below.trod laidOut (by kernel_rfl) (of_decide_eq_true (by kernel_rfl)) k1 bel lt1) (trodAll_cons_mk (Below.trod laidOut (by kernel_rfl) (of_decide_eq_true (by kernel_rfl)) k2 bel lt2) trodAll_mk0))), rfl, bel.frame _, fun h => by cases h⟩

theorem over : Rows.FnSemverImpliesSaid :=
  OpenClaim.holds_of_wide 12 Tryd.f12 rfl rfl rfl rfl rfl rfl rfl ⟨rfl, rfl, rfl, rfl, rfl⟩ rfl rfl rfl rfl rfl (by kernel_rfl) Tryd.func12 (by kernel_rfl)
    (of_decide_eq_true (by kernel_rfl)) (by unfold Func.isWrapper; first | (rw [if_pos (by decide +kernel)]; kernel_rfl) | (rw [if_neg (by decide +kernel)]; exact ⟨rfl, rfl⟩))
    (fun os started H enc _ => lifted os started H enc)

theorem proved : Rows.FnSemverImpliesCardSaid :=
  Claim7.holds_tied_plain_at .later [] [.data, .data, .data, .sentinel, .sentinel] true (true, "a22f22729e71ea010838d259ccf2f51b15a0f528c7169c3d55d9e9e5e8f39c9a") true
    over (fun _ h => by cases h) (by kernel_rfl) (fun _ h => by cases h) fnSemverImplies_row_tie rfl ⟨rfl, rfl⟩ (by kernel_rfl) rfl
    (fun f fn hf hfn => by
      obtain rfl : f = 12 := Option.some.inj ((show Tryd.prog.funcNamed "pub-timebook/laws.FnSemverImplies" = some 12 by kernel_rfl).symm.trans hf) |>.symm
      obtain rfl : fn = Tryd.f12 := (Option.some.inj (Tryd.func12.symm.trans hfn)).symm
      exact ⟨by kernel_rfl, fun j t ht => by
        rw [Tryd.params12] at ht
        have hm : t ∈ [50, 50, 25] := by simpa using Array.mem_of_getElem? ht
        have hall : ([50, 50, 25].all fun u => !Tryd.prog.wantsStandIn u) = true := by kernel_rfl
        exact (show Tryd.prog.wantsStandIn t = false by simpa using List.all_eq_true.1 hall t hm)⟩)
    (by kernel_rfl)
#print axioms proved
end Go.Proofs.YtdlpcfhhpjjjmaaDoor.fnSemverImplies
