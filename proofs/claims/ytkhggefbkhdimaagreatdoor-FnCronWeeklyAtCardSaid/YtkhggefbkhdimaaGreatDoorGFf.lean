/- cron.normalizeFields under the standard options; spec.cronBlank, CronWords. impl.plainSchedule, cron.NewParser, standardParser, ParseStandard, impl.ParseStandard. -/
import Derived.Test.YtkhggefbkhdimaaGreatDoorFeD
import Derived.Handy
import Derived.Deep.MidRow
namespace Go.Proofs.YtkhggefbkhdimaaGreatDoor
open Go.RowKit Go.Shelf
set_option linter.unusedVariables false
set_option linter.unusedSimpArgs false

/-- Which places the standard options take. -/
def tkStd (i : Nat) : Bool := decide (i ≠ 0)
theorem std_tk (i : Nat) (h : i < 6) : decide (0 < bits .and .i64 380 (place i)) = tkStd i := by
  have h2 : i = 0 ∨ i = 1 ∨ i = 2 ∨ i = 3 ∨ i = 4 ∨ i = 5 := by omega
  rcases h2 with rfl | rfl | rfl | rfl | rfl | rfl <;> decide +kernel
/-- The six fields' texts of five words. -/
def stdF (a b c d e : List UInt8) : Nat → List UInt8
  | 0 => [48] | 1 => a | 2 => b | 3 => c | 4 => d | _ => e
theorem norm_std (a b c d e : List UInt8) : NormIs 380 [mkB a, mkB b, mkB c, mkB d, mkB e] (stdF a b c d e) := by
  intro W B v hown hB
  have hsl : SlOf RStr 1 W v [mkB a, mkB b, mkB c, mkB d, mkB e] := by
    obtain ⟨g, cap, rfl, _, _, hc⟩ := own_open hown (by simp)
    refine ⟨_, cap, rfl, fun i x hi => ⟨g, 0, [.string x], rfl, rfl, fun j u hj => ?_, rfl⟩⟩
    have hil := (List.getElem?_eq_some_iff.1 hi).1
    have := hc i hil
    rcases j with _ | j
    · have e := Option.some.inj hj
      subst e
      simp only [Nat.zero_add, Nat.mul_one, Nat.add_zero]
      rw [this]
      simp only [List.getD, hi, Option.getD_some]
    · simp at hj
  refine (norm_plain 380 tkStd (by decide +kernel) (by decide +kernel) (Lib.hid std_tk) v _ W hsl (by simp) (by show 5 = cntT tkStd 6; decide)).mono ?_
  rintro e2 w2 ⟨G, rfl, hG, ho, hb⟩
  refine ⟨G, rfl, fun i hi => ?_, hG, grown_of_below (B := 0) hb⟩
  rw [ho.cellAt i (by omega)]
  have h2 : i = 0 ∨ i = 1 ∨ i = 2 ∨ i = 3 ∨ i = 4 ∨ i = 5 := by omega
  rcases h2 with rfl | rfl | rfl | rfl | rfl | rfl <;> rfl
end Go.Proofs.YtkhggefbkhdimaaGreatDoor

namespace Go.Proofs.YtkhggefbkhdimaaGreatDoor
open Go.RowKit Go.Shelf
set_option linter.unusedVariables false
set_option linter.unusedSimpArgs false

theorem assertSp (v : Value) (w : World) : (Instr.typeAssert (.iface 103 v) 68 103 true).run Tryz.prog w = .ok (.tuple #[v, .bool true]) w := by kernel_rfl
/-- A schedule as impl has it: six sets. -/
def implS (a b c d e f : Nat) : Value := .agg #[.bool false, .int .i64 0, .int .u64 a, .int .u64 b, .int .u64 c, .int .u64 d, .int .u64 e, .int .u64 f]
def zeroS : Value := .agg #[.bool false, .int .i64 0, .int .u64 0, .int .u64 0, .int .u64 0, .int .u64 0, .int .u64 0, .int .u64 0]
set_option maxRecDepth 100000 in
set_option maxHeartbeats 4000000 in
theorem plain_ok (X a b c d e f : Nat) (w : World) (hx : w.heap[X]? = some (.cells #[.int .u64 a, .int .u64 b, .int .u64 c, .int .u64 d, .int .u64 e, .int .u64 f, .pointer none] 105 (0, 0))) :
    Calls Tryz.prog 29 #[.iface 103 (.pointer (some ⟨X, 0, none⟩)), .nilIface] w fun ed w' => ed = .returned (.tuple #[implS a b c d e f, .bool true]) ∧ Below w.heap.size w w' := by
  have has := assertSp (.pointer (some ⟨X, 0, none⟩))
  have c0 : w.cell? ⟨X, 0, none⟩ = some (.int .u64 a) := cell_of_row _ _ 0 _ _ (0, 0) hx
  have c1 : w.cell? ⟨X, 1, none⟩ = some (.int .u64 b) := cell_of_row _ _ 1 _ _ (0, 0) hx
  have c2 : w.cell? ⟨X, 2, none⟩ = some (.int .u64 c) := cell_of_row _ _ 2 _ _ (0, 0) hx
  have c3 : w.cell? ⟨X, 3, none⟩ = some (.int .u64 d) := cell_of_row _ _ 3 _ _ (0, 0) hx
  have c4 : w.cell? ⟨X, 4, none⟩ = some (.int .u64 e) := cell_of_row _ _ 4 _ _ (0, 0) hx
  have c5 : w.cell? ⟨X, 5, none⟩ = some (.int .u64 f) := cell_of_row _ _ 5 _ _ (0, 0) hx
  clear hx
  have e0 := keepV (o := .cells #[.bool false, .int .i64 0, .int .u64 0, .int .u64 0, .int .u64 0, .int .u64 0, .int .u64 0, .int .u64 0] 24) c0
  have e1 := keepV (o := .cells #[.bool false, .int .i64 0, .int .u64 0, .int .u64 0, .int .u64 0, .int .u64 0, .int .u64 0, .int .u64 0] 24) c1
  have e2 := keepV (o := .cells #[.bool false, .int .i64 0, .int .u64 0, .int .u64 0, .int .u64 0, .int .u64 0, .int .u64 0, .int .u64 0] 24) c2
  have e3 := keepV (o := .cells #[.bool false, .int .i64 0, .int .u64 0, .int .u64 0, .int .u64 0, .int .u64 0, .int .u64 0, .int .u64 0] 24) c3
  have e4 := keepV (o := .cells #[.bool false, .int .i64 0, .int .u64 0, .int .u64 0, .int .u64 0, .int .u64 0, .int .u64 0, .int .u64 0] 24) c4
  have e5 := keepV (o := .cells #[.bool false, .int .i64 0, .int .u64 0, .int .u64 0, .int .u64 0, .int .u64 0, .int .u64 0, .int .u64 0] 24) c5
  go_enter Tryz.func29, Tryz.ntmps29
  go_wp2_with fail
  go_region
  go_wp2_with fail
  clear c0 c1 c2 c3 c4 c5 e0 e1 e2 e3 e4 e5
  go_returns
  exact ⟨rfl, (by repeat (first | (with_reducible assumption) | (with_reducible exact Below.refl _ _) | (with_reducible refine below_drewN ?_ _) | (with_reducible refine Below.drew ?_) | (with_reducible refine Below.setCell ?_ (by first | omega | (simp <;> omega)) _) | (with_reducible refine Below.alloc ?_ (by first | omega | (simp <;> omega)) _)))⟩
theorem plain_err (t : Nat) (p : Value) (w : World) :
    Calls Tryz.prog 29 #[.nilIface, .iface t p] w fun ed w' => ed = .returned (.tuple #[zeroS, .bool false]) ∧ Below w.heap.size w w' := by
  go_enter Tryz.func29, Tryz.ntmps29
  go_wp2_with fail
  go_returns
  exact ⟨rfl, (by repeat (first | (with_reducible assumption) | (with_reducible exact Below.refl _ _) | (with_reducible refine below_drewN ?_ _) | (with_reducible refine Below.drew ?_) | (with_reducible refine Below.setCell ?_ (by first | omega | (simp <;> omega)) _) | (with_reducible refine Below.alloc ?_ (by first | omega | (simp <;> omega)) _)))⟩
theorem newParser_ok (o : Int) (w : World) (h : ¬ (0 < bits .and .i64 o 128 ∧ 0 < bits .and .i64 o 2)) :
    Calls Tryz.prog 60 #[.int .i64 o] w fun ed w' => ed = .returned (.agg #[.int .i64 o]) ∧ Below w.heap.size w w' := by
  cases h1 : decide (0 < bits .and .i64 o 128) <;> cases h2 : decide (0 < bits .and .i64 o 2)
  case true.true => exact absurd ⟨of_decide_eq_true h1, of_decide_eq_true h2⟩ h
  all_goals
    (clear h
     go_enter Tryz.func60, Tryz.ntmps60
     go_wp2_with fail
     go_returns
     exact ⟨rfl, (by repeat (first | (with_reducible assumption) | (with_reducible exact Below.refl _ _) | (with_reducible refine below_drewN ?_ _) | (with_reducible refine Below.drew ?_) | (with_reducible refine Below.setCell ?_ (by first | omega | (simp <;> omega)) _) | (with_reducible refine Below.alloc ?_ (by first | omega | (simp <;> omega)) _)))⟩)
def implC (a b c d e f : Nat) : List Value := [.bool false, .int .i64 0, .int .u64 a, .int .u64 b, .int .u64 c, .int .u64 d, .int .u64 e, .int .u64 f]
theorem implC_one (a b c d e f : Nat) : (implC a b c d e f).toArray.all (·.oneCell') = true := all_oneCell_toArray (fun v hv => by
  simp only [implC, List.mem_cons, List.not_mem_nil, or_false] at hv
  rcases hv with rfl | rfl | rfl | rfl | rfl | rfl | rfl | rfl <;> rfl)
theorem infoSC : (Tryz.prog.info? 24).map (·.size) = some 8 := by kernel_rfl
theorem implS_of (r : Nat → Option Nat) : ∃ a b c d e f : Nat, (if all6 r then implS ((r 0).getD 0) ((r 1).getD 0) ((r 2).getD 0) ((r 3).getD 0) ((r 4).getD 0) ((r 5).getD 0) else zeroS) = implS a b c d e f := by
  cases all6 r with
  | true => exact ⟨_, _, _, _, _, _, rfl⟩
  | false => exact ⟨0, 0, 0, 0, 0, 0, rfl⟩
/-- A text's schedule, as impl answers. -/
def PlainR (r : Nat → Option Nat) (w : World) (e : Ending) (w' : World) : Prop :=
  e = .returned (.tuple #[if all6 r then implS ((r 0).getD 0) ((r 1).getD 0) ((r 2).getD 0) ((r 3).getD 0) ((r 4).getD 0) ((r 5).getD 0) else zeroS, .bool (all6 r)]) ∧ Below w.heap.size w w'
theorem plain_of (r : Nat → Option Nat) (w0 w : World) (e : Ending) (h : ParR r w0 e w) : ∃ v ev, e = .returned (.tuple #[v, ev]) ∧ Calls Tryz.prog 29 #[v, ev] w (PlainR r w) := by
  obtain ⟨h1, h2, h3⟩ := h
  cases ha : all6 r with
  | true =>
    obtain ⟨X, rfl, hx⟩ := h1 ha
    refine ⟨_, _, rfl, (plain_ok X _ _ _ _ _ _ w hx).mono ?_⟩
    rintro e2 w2 ⟨rfl, hb⟩
    exact ⟨by rw [ha]; rfl, hb⟩
  | false =>
    obtain ⟨t, p, rfl⟩ := h2 ha
    refine ⟨_, _, rfl, (plain_err t p w).mono ?_⟩
    rintro e2 w2 ⟨rfl, hb⟩
    exact ⟨by rw [ha]; rfl, hb⟩
theorem std_any (w : World) : Calls Tryz.prog 55 #[] w fun ed w' => ed = .returned (.agg #[.int .i64 380]) ∧ Below w.heap.size w w' := by
  go_enter Tryz.func55, Tryz.ntmps55
  go_wp2_with fail
  refine (newParser_ok 380 _ (by decide +kernel)).mono ?_
  rintro e w1 ⟨rfl, hb⟩
  have ea := heap_alloc_new w (.cells #[.int .i64 0] 85)
  have ha : Below w.heap.size w (w.alloc (.cells #[.int .i64 0] 85)) := Below.alloc (Below.refl _ _) (Nat.le_refl _) _
  have hz : (w.alloc (.cells #[.int .i64 0] 85)).heap.size = w.heap.size + 1 := by simp
  have r1 : w1.heap[w.heap.size]? = some (.cells #[.int .i64 0] 85) := by rw [hb.block _ (by rw [hz]; omega)]; exact ea
  have c1 : w1.cell? ⟨w.heap.size, 0, none⟩ = some (.int .i64 0) := cell_of_row _ _ 0 _ _ (0, 0) r1
  have f1 : w1.frozen? ⟨w.heap.size, 0, none⟩ = false := by unfold World.frozen?; rw [r1]; simp
  have HB : Hid (Below w.heap.size w (w1.setCell ⟨w.heap.size, 0, none⟩ (.int .i64 380))) := Lib.hid (Below.setCell (ha.trans (hb.mono ha.size)) (Nat.le_refl w.heap.size) _)
  clear hb ha ea r1
  go_wp2_with fail
  have c9 := World.cell?_setCell_same w1 ⟨w.heap.size, 0, none⟩ (.int .i64 380) c1
  refine bodyPost_ret (v := .agg #[.int .i64 380]) (by simp [results, Tryz.results55, go_sem, c9]) rfl ⟨rfl, HB.out⟩
theorem parseStd_any (s : ByteArray) (F : Nat → List UInt8) (HP : ∀ (w : World), Hid (Errs w) → Calls Tryz.prog 43 #[.agg #[.int .i64 380], .string s] w (ParR (fun i => fieldJ i (F i)) w)) (w : World) (he : Hid (Errs w)) :
    Calls Tryz.prog 30 #[.string s] w (ParR (fun i => fieldJ i (F i)) w) := by
  go_enter Tryz.func30, Tryz.ntmps30
  go_wp2_with fail
  refine (std_any _).mono ?_
  rintro e w1 ⟨rfl, hb⟩
  have he1 : Hid (Errs w1) := Lib.hid (he.out.below hb)
  have HB := Lib.hid hb
  clear hb
  go_wp2_with fail
  refine (HP w1 he1).mono ?_
  rintro e w2 ⟨h1, h2, h3⟩
  have HB2 := Lib.hid (HB.out.trans (h3.mono HB.out.size))
  clear h3
  cases ha : all6 (fun i => fieldJ i (F i)) with
  | true =>
    obtain ⟨X, rfl, hx⟩ := h1 ha
    go_wp2_with fail
    go_returns
    exact ⟨fun _ => ⟨X, rfl, hx⟩, fun h => Bool.noConfusion (ha.symm.trans h), HB2.out⟩
  | false =>
    obtain ⟨t, p, rfl⟩ := h2 ha
    go_wp2_with fail
    go_returns
    exact ⟨fun h => Bool.noConfusion (ha.symm.trans h), fun _ => ⟨t, p, rfl⟩, HB2.out⟩
theorem implStd_any (s : ByteArray) (F : Nat → List UInt8) (HP : ∀ (w : World), Hid (Errs w) → Calls Tryz.prog 43 #[.agg #[.int .i64 380], .string s] w (ParR (fun i => fieldJ i (F i)) w)) (w : World) (he : Hid (Errs w)) :
    Calls Tryz.prog 7 #[.string s] w (PlainR (fun i => fieldJ i (F i)) w) := by
  go_enter Tryz.func7, Tryz.ntmps7
  go_wp2_with fail
  have ea := heap_alloc_new w (.cells #[.bool false, .int .i64 0, .int .u64 0, .int .u64 0, .int .u64 0, .int .u64 0, .int .u64 0, .int .u64 0] 24)
  have ha : Below w.heap.size w (w.alloc (.cells #[.bool false, .int .i64 0, .int .u64 0, .int .u64 0, .int .u64 0, .int .u64 0, .int .u64 0, .int .u64 0] 24)) := Below.alloc (Below.refl _ _) (Nat.le_refl _) _
  have hz : (w.alloc (.cells #[.bool false, .int .i64 0, .int .u64 0, .int .u64 0, .int .u64 0, .int .u64 0, .int .u64 0, .int .u64 0] 24)).heap.size = w.heap.size + 1 := by simp
  refine (parseStd_any s F HP _ (Lib.hid (he.out.below ha))).mono ?_
  intro e1 w1 hR
  have hb := hR.2.2
  obtain ⟨v, ev, rfl, hPl⟩ := plain_of _ _ _ _ hR
  have r1 : w1.heap[w.heap.size]? = some (.cells #[.bool false, .int .i64 0, .int .u64 0, .int .u64 0, .int .u64 0, .int .u64 0, .int .u64 0, .int .u64 0] 24) := by rw [hb.block _ (by rw [hz]; omega)]; exact ea
  have HB1 := Lib.hid (ha.trans (hb.mono ha.size))
  have hl1 : w.heap.size < w1.heap.size := by have := hb.size; omega
  clear hR hb ea ha
  go_wp2_with fail
  refine hPl.mono ?_
  rintro e2 w2 ⟨rfl, hb⟩
  have r2 : w2.heap[w.heap.size]? = some (.cells #[.bool false, .int .i64 0, .int .u64 0, .int .u64 0, .int .u64 0, .int .u64 0, .int .u64 0, .int .u64 0] 24) := by rw [hb.block _ hl1]; exact r1
  have HB2 := Lib.hid (HB1.out.trans (hb.mono HB1.out.size))
  have HT2 : Hid (w2.there w.heap.size 0 8) := Lib.hid (fun j hj => by
    constructor
    · rw [cell_of_row _ _ _ _ _ (0, 0) r2]; simp; omega
    · unfold World.frozen?; rw [r2]; simp)
  clear hb r1
  obtain ⟨xa, xb, xc, xd, xe, xf, hx⟩ := implS_of (fun i => fieldJ i (F i))
  have HX := Lib.hid hx
  rw [hx]
  clear hx r2
  rw [show implS xa xb xc xd xe xf = .agg (implC xa xb xc xd xe xf).toArray from rfl]
  obtain ⟨V, hV⟩ : ∃ V, V = (implC xa xb xc xd xe xf).toArray := ⟨_, rfl⟩
  rw [← hV]
  have hVs : V.size = 8 := by rw [hV]; rfl
  have hVo : V.all (·.oneCell') = true := by rw [hV]; exact implC_one _ _ _ _ _ _
  have hVi : (Tryz.prog.info? 24).map (·.size) = some V.size := by rw [hVs]; exact infoSC
  have hVt : w2.there w.heap.size 0 V.size := by rw [hVs]; exact HT2.out
  have HV := Lib.hid hV
  clear hV
  go_wp2_with (first | (refine wpList_store_mid rfl 24 (.tmp 2) (.tmp 9) rfl w.heap.size 0 V rfl rfl hVt hVi hVo ?_))
  have hfin : (w2.setCells w.heap.size 0 V.toList).rangeAt w.heap.size 0 V.toList := World.rangeAt_setCells_same w2 w.heap.size 0 V.toList (by rw [Array.length_toList]; exact hVt)
  have hbel : Below w.heap.size w (w2.setCells w.heap.size 0 V.toList) := below_setCells (Nat.le_refl _) _ _ _ HB2.out
  refine bodyPost_ret (v := .tuple #[.agg V, .bool (all6 fun i => fieldJ i (F i))]) ?_ rfl ⟨by rw [HX.out, HV.out]; rfl, hbel⟩
  generalize w2.setCells w.heap.size 0 _ = W9 at hfin ⊢
  have hlv := run_loadVar_mid (P := Tryz.prog) W9 w.heap.size 0 24 V.toList _ hfin Tryz.underlying24 rfl (by rw [Array.length_toList]; exact hVi)
  simp [results, Tryz.results7, Act.put, Sem.run_bind, asAddr, hlv]
end Go.Proofs.YtkhggefbkhdimaaGreatDoor
