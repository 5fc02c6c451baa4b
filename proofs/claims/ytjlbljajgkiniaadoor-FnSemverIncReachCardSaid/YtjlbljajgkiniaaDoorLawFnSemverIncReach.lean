/- 'laws.FnSemverIncReach' returns true for every input: the row's step round the walk of YtjlbljajgkiniaaDoorWReachL, and the card. -/
import Derived.Test.YtjlbljajgkiniaaDoorRows
import Derived.Test.YtjlbljajgkiniaaDoorCards
import Derived.Test.YtjlbljajgkiniaaDoorTie
import Derived.Test.YtjlbljajgkiniaaDoorWReachL
import Derived.Test.YtjlbljajgkiniaaDoorLaidErr
import Derived.Test.YtjlbljajgkiniaaDoorLaidTab
import Derived.WalkKit
import Derived.ProofKit
import Derived.OpenShut
import Derived.ShutString
import Derived.Below
import Derived.LaidMore
import Derived.Stop.Joined
import Derived.SevenTiedAt
namespace Go.Proofs.YtjlbljajgkiniaaDoor.fnSemverIncReach
open Go.ChangeShapes Go.WideShapes Go.ChangeAt Go.RowKit
open Go.ChangeMaps (open_string shut_string)
set_option linter.unusedVariables false

theorem own : ownKnob Tryd.prog.godebug = none := by kernel_rfl
theorem laidOut : laidOutB Tryd.prog = true := by kernel_rfl

theorem cells_t24 : Tryd.prog.cellsOf 24 = 5 := by kernel_rfl
theorem cells_f22 : Tryd.prog.cellsOf 22 = 1 := by kernel_rfl
theorem cells_f9 : Tryd.prog.cellsOf 9 = 1 := by kernel_rfl
set_option maxRecDepth 100000 in
theorem open_t24 {H : Type} {enc : TypeId × Value → H} {W : World} {base b0 : Nat} {spare : Nat → Bool} {held : Bool} {r : Reach} {v : Value} {d : DataW H} {p : List MemPlace} (hv : Value.okWide Tryd.prog W r b0 24 v) (h : DataW.Trod enc Tryd.prog W base spare held 24 v d p) :
    ∃ (x0 : Int) (x1 : Int) (x2 : Int) (x3 : ByteArray) (x4 : ByteArray), v = .agg #[.int .u64 x0, .int .u64 x1, .int .u64 x2, .string x3, .string x4] ∧ (Lit.int .u64 x0).wf = true ∧ (Lit.int .u64 x1).wf = true ∧ (Lit.int .u64 x2).wf = true ∧ x3.size ≤ maxLen ∧ x4.size ≤ maxLen := by
  obtain ⟨cs, rfl, hsz⟩ := okWide_struct Tryd.underlying24 hv
  obtain ⟨l⟩ := cs
  match l, hsz.trans cells_t24 with
  | [c0, c1, c2, c3, c4], _ =>
    obtain ⟨fuel, hf⟩ := h
    obtain ⟨xs, n, _, _, _, hlen, hg⟩ := DataW.trod_struct Tryd.underlying24 hf
    match xs, hlen with
    | [y0, y1, y2, y3, y4], _ =>
      have g0 : DataW.trod enc Tryd.prog W base spare held n 22 [c0] = some y0 := by
        simpa [Value.cells, cells_f22] using hg 0 _ rfl
      obtain ⟨x0, e0, _, w0⟩ := DataW.trod_int Tryd.underlying22 g0
      obtain rfl := (List.cons.inj e0).1
      have g1 : DataW.trod enc Tryd.prog W base spare held n 22 [c1] = some y1 := by
        simpa [Value.cells, cells_f22] using hg 1 _ rfl
      obtain ⟨x1, e1, _, w1⟩ := DataW.trod_int Tryd.underlying22 g1
      obtain rfl := (List.cons.inj e1).1
      have g2 : DataW.trod enc Tryd.prog W base spare held n 22 [c2] = some y2 := by
        simpa [Value.cells, cells_f22] using hg 2 _ rfl
      obtain ⟨x2, e2, _, w2⟩ := DataW.trod_int Tryd.underlying22 g2
      obtain rfl := (List.cons.inj e2).1
      have g3 : DataW.trod enc Tryd.prog W base spare held n 9 [c3] = some y3 := by
        simpa [Value.cells, cells_f9] using hg 3 _ rfl
      obtain ⟨x3, e3, _, w3⟩ := DataW.trod_string Tryd.underlying9 g3
      obtain rfl := (List.cons.inj e3).1
      have g4 : DataW.trod enc Tryd.prog W base spare held n 9 [c4] = some y4 := by
        simpa [Value.cells, cells_f9] using hg 4 _ rfl
      obtain ⟨x4, e4, _, w4⟩ := DataW.trod_string Tryd.underlying9 g4
      obtain rfl := (List.cons.inj e4).1
      exact ⟨x0, x1, x2, x3, x4, rfl, w0, w1, w2, w3, w4⟩

theorem walk (a0_0 : Int) (a0_1 : Int) (a0_2 : Int) (a0_3 : ByteArray) (a0_4 : ByteArray) (a1_0 : Int) (a1_1 : Int) (a1_2 : Int) (a1_3 : ByteArray) (a1_4 : ByteArray) (w0_0 : (Lit.int .u64 a0_0).wf = true) (w0_1 : (Lit.int .u64 a0_1).wf = true) (w0_2 : (Lit.int .u64 a0_2).wf = true) (w0_3 : a0_3.size ≤ maxLen) (w0_4 : a0_4.size ≤ maxLen) (w1_0 : (Lit.int .u64 a1_0).wf = true) (w1_1 : (Lit.int .u64 a1_1).wf = true) (w1_2 : (Lit.int .u64 a1_2).wf = true) (w1_3 : a1_3.size ≤ maxLen) (w1_4 : a1_4.size ≤ maxLen) (w : World) (he : Hid (Both w)) :
    Calls Tryd.prog 3 #[.agg #[.int .u64 a0_0, .int .u64 a0_1, .int .u64 a0_2, .string a0_3, .string a0_4], .agg #[.int .u64 a1_0, .int .u64 a1_1, .int .u64 a1_2, .string a1_3, .string a1_4]] w fun e w' => e = .returned (.bool true) ∧ Below w.heap.size w w' := by
  exact reach_law a0_0 a0_1 a0_2 a0_3 a0_4 a1_0 a1_1 a1_2 a1_3 a1_4 w0_0 w0_1 w0_2 w0_3 w0_4 w1_0 w1_1 w1_2 w1_3 w1_4 w he

set_option maxRecDepth 100000 in
theorem lifted (os : Os) (started : os.Started) (H : Type) (enc : TypeId × Value → H) :
    ReturnsInHanded {} Tryd.checked os 3 .any (fun w args => (Rows.fnSemverIncReachSpec.pre enc Tryd.prog Tryd.f3 [] false w args ∧ laidMetH Tryd.prog laidT w) ∧ sizedMet enc Tryd.prog Tryd.f3 (OpenSpec.ofChange Rows.fnSemverIncReachSpec) false w args) (Rows.fnSemverIncReachSpec.post enc Tryd.prog Tryd.f3 false true false false) := by
  refine returnsInHanded_of_change_and (C := Tryd.checked) (X := fun w _ => laidMetH Tryd.prog laidT w) (fun _ _ _ hh h => h.of_heap hh) own started (by kernel_rfl) Tryd.func3
    (ChangeSpec.witness_shaped (enc := enc) (C := Tryd.checked) (os := os) (X := fun w _ => laidMetH Tryd.prog laidT w) false (World.doorLaid Tryd.prog 400 os) #[.agg #[.int .u64 0, .int .u64 0, .int .u64 0, .string ⟨#[]⟩, .string ⟨#[]⟩], .agg #[.int .u64 0, .int .u64 0, .int .u64 0, .string ⟨#[]⟩, .string ⟨#[]⟩]] 8 rfl (World.shaped_of_RefB (by kernel_rfl) (by kernel_rfl)) (by kernel_rfl) (by kernel_rfl) (by kernel_rfl) (door_metT os _)) ?_
  intro W base args ds gs before hval0 hW _ _ hL _
  have hval : ∀ (j : Nat) t v, Tryd.f3.params[j]? = some t → args[j]? = some v → Value.okWide Tryd.prog W .any base t v := hval0
  have hW' := hW
  obtain ⟨p, q, hA0, hV, rfl, hfz, hnd⟩ := hW
  have hA : DataW.TrodAll enc Tryd.prog W 0 (fun _ => true) true Tryd.f3.params.toList args.toList ds p := hA0
  rw [Tryd.params3] at hA hval
  obtain ⟨v0, vs0, d0, ds0, p0, q0, hargs, rfl, rfl, h0, r0⟩ := trodAll_cons hA
  obtain ⟨v1, vs1, d1, ds1, p1, q1, rfl, rfl, rfl, h1, r1⟩ := trodAll_cons r0
  obtain ⟨rfl, rfl, rfl⟩ := trodAll_nil r1
  obtain rfl : args = #[v0, v1] := by cases args; simp_all
  obtain ⟨rfl, rfl⟩ := trodVars_none hV
  have k0 := h0
  have lt0 : ∀ x ∈ p0, x.block < W.heap.size := by obtain ⟨m, hm⟩ := k0; exact DataW.trod_lt m _ _ _ hm
  have k1 := h1
  have lt1 : ∀ x ∈ p1, x.block < W.heap.size := by obtain ⟨m, hm⟩ := k1; exact DataW.trod_lt m _ _ _ hm
  obtain ⟨a0_0, a0_1, a0_2, a0_3, a0_4, rfl, w0_0, w0_1, w0_2, w0_3, w0_4⟩ := open_t24 (hval 0 24 v0 rfl rfl) h0
  obtain ⟨a1_0, a1_1, a1_2, a1_3, a1_4, rfl, w1_0, w1_1, w1_2, w1_3, w1_4⟩ := open_t24 (hval 1 24 v1 rfl rfl) h1
  clear hA0 hval0
  refine (walk a0_0 a0_1 a0_2 a0_3 a0_4 a1_0 a1_1 a1_2 a1_3 a1_4 w0_0 w0_1 w0_2 w0_3 w0_4 w1_0 w1_1 w1_2 w1_3 w1_4 W (Lib.hid (both_of_laid hL))).mono fun e W' ⟨he, bel⟩ => ?_
  subst he
  exact ⟨_, rfl, _, _, _, [], _, [], hW', trodAll_mk1 (shut_bool Tryd.underlying4 _), (trodAll_cons_mk (Below.trod laidOut (by kernel_rfl) (of_decide_eq_true (by kernel_rfl)) k0 bel lt0) (trodAll_cons_mk (Below.trod laidOut (by kernel_rfl) (of_decide_eq_true (by kernel_rfl)) k1 bel lt1) trodAll_mk0)), rfl, bel.frame _, fun h => by cases h⟩

theorem over : Rows.FnSemverIncReachSaid :=
  OpenClaim.holds_of_wide 3 Tryd.f3 rfl rfl rfl rfl rfl rfl rfl ⟨rfl, rfl, rfl, rfl, rfl⟩ rfl rfl rfl rfl rfl (by kernel_rfl) Tryd.func3 (by kernel_rfl)
    (of_decide_eq_true (by kernel_rfl)) (by unfold Func.isWrapper; first | (rw [if_pos (by decide +kernel)]; kernel_rfl) | (rw [if_neg (by decide +kernel)]; exact ⟨rfl, rfl⟩))
    (fun os started H enc _ => lifted os started H enc)

theorem proved : Rows.FnSemverIncReachCardSaid :=
  Claim7.holds_tied_plain_at .later [] [.data, .data, .data, .sentinel, .sentinel] true (true, "bda537312609851fe57f262019865a252723551113f47c4d1d66ee40874926fa") true
    over (fun _ h => by cases h) (by kernel_rfl) (fun _ h => by cases h) fnSemverIncReach_row_tie rfl ⟨rfl, rfl⟩ (by kernel_rfl) rfl
    (fun f fn hf hfn => by
      obtain rfl : f = 3 := Option.some.inj ((show Tryd.prog.funcNamed "pub-timebook/laws.FnSemverIncReach" = some 3 by kernel_rfl).symm.trans hf) |>.symm
      obtain rfl : fn = Tryd.f3 := (Option.some.inj (Tryd.func3.symm.trans hfn)).symm
      exact ⟨by kernel_rfl, fun j t ht => by
        rw [Tryd.params3] at ht
        have hm : t ∈ [24, 24] := by simpa using Array.mem_of_getElem? ht
        have hall : ([24, 24].all fun u => !Tryd.prog.wantsStandIn u) = true := by kernel_rfl
        exact (show Tryd.prog.wantsStandIn t = false by simpa using List.all_eq_true.1 hall t hm)⟩)
    (by kernel_rfl)
#print axioms proved
end Go.Proofs.YtjlbljajgkiniaaDoor.fnSemverIncReach
