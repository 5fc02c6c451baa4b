/- spec.CronNext in UTC. -/
import Derived.Test.YtpgclepiagfgfaaTsL
namespace Go.Proofs.Ytpgclepiagfgfaa
open Go.RowKit
set_option linter.unusedVariables false
set_option linter.unusedSimpArgs false

set_option maxRecDepth 100000 in
set_option maxHeartbeats 8000000 in
theorem cronNext_any (A : Array Value) (s : Sched) (hA : Hid (A = (fieldsL s).toArray)) (sec : Int) (ns : Nat) (h0 : -62135596800 ≤ sec) (h1 : sec ≤ 253402300799) (first Y0 : Int) (Hf : Hid (first = sec + 62135596800 + 1)) (HY0 : Hid (yearOf (dayN (sec + 62135596800 + 1)) = Y0)) (yb0 : 1 ≤ Y0 ∧ Y0 ≤ 10000) (w : World) :
    Calls Try.prog 17 #[.agg A, .agg #[.int .i64 sec, .int .i64 ns], .agg #[.slice none 0 0, .slice none 0 0, .slice none 0 0, .slice none 0 0]] w fun e w' => ∃ r, Hid (NextIs s first (Y0 + 5) r) ∧ e = .returned (.tuple #[.agg #[.int .i64 (ansX r), .int .i64 0], .bool (ansB r)]) ∧ Below w.heap.size w w' := by
  have HS0 : Hid (((((w.alloc (.cells A 46)).alloc (.cells #[.int .i64 sec, .int .i64 ns] 24)).alloc (.cells #[.slice none 0 0, .slice none 0 0, .slice none 0 0, .slice none 0 0] 29)).alloc (.cells #[.int .i64 0, .int .i64 0] 24)).rangeAt w.heap.size 0 (fieldsL s) ∧ RowAt ((((w.alloc (.cells A 46)).alloc (.cells #[.int .i64 sec, .int .i64 ns] 24)).alloc (.cells #[.slice none 0 0, .slice none 0 0, .slice none 0 0, .slice none 0 0] 29)).alloc (.cells #[.int .i64 0, .int .i64 0] 24)) (w.heap.size + 1) 24 #[.int .i64 sec, .int .i64 ns] ∧ RowAt ((((w.alloc (.cells A 46)).alloc (.cells #[.int .i64 sec, .int .i64 ns] 24)).alloc (.cells #[.slice none 0 0, .slice none 0 0, .slice none 0 0, .slice none 0 0] 29)).alloc (.cells #[.int .i64 0, .int .i64 0] 24)) (w.heap.size + 1 + 1) 29 #[.slice none 0 0, .slice none 0 0, .slice none 0 0, .slice none 0 0] ∧ RowAt ((((w.alloc (.cells A 46)).alloc (.cells #[.int .i64 sec, .int .i64 ns] 24)).alloc (.cells #[.slice none 0 0, .slice none 0 0, .slice none 0 0, .slice none 0 0] 29)).alloc (.cells #[.int .i64 0, .int .i64 0] 24)) (w.heap.size + 1 + 1 + 1) 24 #[.int .i64 0, .int .i64 0] ∧ Below w.heap.size w ((((w.alloc (.cells A 46)).alloc (.cells #[.int .i64 sec, .int .i64 ns] 24)).alloc (.cells #[.slice none 0 0, .slice none 0 0, .slice none 0 0, .slice none 0 0] 29)).alloc (.cells #[.int .i64 0, .int .i64 0] 24))) := by
    refine Lib.hid ⟨World.rangeAt_alloc (World.rangeAt_alloc (World.rangeAt_alloc (box_range w A 46 _ hA.out) _) _) _, ((rowAt_last _ _ _ _ (by simp)).alloc _).alloc _, (rowAt_last _ _ _ _ (by simp)).alloc _, rowAt_last _ _ _ _ (by simp), (by repeat (first | (with_reducible assumption) | (with_reducible exact Below.refl _ _) | (with_reducible refine Below.setCell ?_ (by first | omega | (simp <;> omega)) _) | refine below_drewN ?_ _ | refine Below.drew ?_ | refine Below.alloc ?_ (by first | omega | (simp <;> omega)) _))⟩
  have hfr : Hid (sec + 1 = first - 62135596800) := Lib.hid (by have := Hf.out; omega)
  have HY : Hid (yearOf ((sec + 1) / 86400) = Y0) := Lib.hid (by have := HY0.out; unfold dayN at this; rw [show (sec + 62135596800 + 1) / 86400 - 719162 = (sec + 1) / 86400 by omega] at this; exact this)
  go_enter Try.func17, Try.ntmps17
  go_wp2_with fail
  refine (offset_any (sec + 1) _).mono ?_
  rintro e w1 ⟨rfl, hb⟩
  have H1 : Hid (w1.rangeAt w.heap.size 0 (fieldsL s) ∧ RowAt w1 (w.heap.size + 1) 24 #[.int .i64 sec, .int .i64 ns] ∧ RowAt w1 (w.heap.size + 1 + 1) 29 #[.slice none 0 0, .slice none 0 0, .slice none 0 0, .slice none 0 0] ∧ RowAt w1 (w.heap.size + 1 + 1 + 1) 24 #[.int .i64 0, .int .i64 0] ∧ Below w.heap.size w w1) := Lib.hid ⟨rangeAt_below HS0.out.1 hb, HS0.out.2.1.below hb, HS0.out.2.2.1.below hb, HS0.out.2.2.2.1.below hb, HS0.out.2.2.2.2.trans ((hb).mono HS0.out.2.2.2.2.size)⟩
  clear hb HS0
  have z0 : w1.cell? ⟨w.heap.size + 1 + 1, 0, none⟩ = some (.slice none 0 0) := H1.out.2.2.1.cell 0
  have z1 : w1.cell? ⟨w.heap.size + 1 + 1, 1, none⟩ = some (.slice none 0 0) := H1.out.2.2.1.cell 1
  have z2 : w1.cell? ⟨w.heap.size + 1 + 1, 2, none⟩ = some (.slice none 0 0) := H1.out.2.2.1.cell 2
  have z3 : w1.cell? ⟨w.heap.size + 1 + 1, 3, none⟩ = some (.slice none 0 0) := H1.out.2.2.1.cell 3
  go_wp2_with fail
  refine (floorDiv_any (sec + 1) 86400 (by omega) (by omega) (by omega) (by omega) _).mono ?_
  rintro e w2 ⟨rfl, rfl⟩
  obtain ⟨n0, hn0⟩ : ∃ n0, Hid ((sec + 1) / 86400 = n0) := ⟨_, rfl⟩
  have nb : -719162 ≤ n0 ∧ n0 ≤ 3000000 := by have := hn0.out; omega
  rw [hn0.out] at HY
  rw [hn0.out]
  go_wp2_with fail
  refine (dateOf_any n0 (by omega) (by omega) _).mono ?_
  rintro e w2 ⟨rfl, hb⟩
  rw [HY.out]
  clear z0 z1 z2 z3
  have H2 : Hid (w2.rangeAt w.heap.size 0 (fieldsL s) ∧ RowAt w2 (w.heap.size + 1) 24 #[.int .i64 sec, .int .i64 ns] ∧ RowAt w2 (w.heap.size + 1 + 1) 29 #[.slice none 0 0, .slice none 0 0, .slice none 0 0, .slice none 0 0] ∧ RowAt w2 (w.heap.size + 1 + 1 + 1) 24 #[.int .i64 0, .int .i64 0] ∧ Below w.heap.size w w2) := Lib.hid ⟨rangeAt_below H1.out.1 hb, H1.out.2.1.below hb, H1.out.2.2.1.below hb, H1.out.2.2.2.1.below hb, H1.out.2.2.2.2.trans ((hb).mono H1.out.2.2.2.2.size)⟩
  clear hb H1
  have z0 : w2.cell? ⟨w.heap.size + 1 + 1, 0, none⟩ = some (.slice none 0 0) := H2.out.2.2.1.cell 0
  have z1 : w2.cell? ⟨w.heap.size + 1 + 1, 1, none⟩ = some (.slice none 0 0) := H2.out.2.2.1.cell 1
  have z2 : w2.cell? ⟨w.heap.size + 1 + 1, 2, none⟩ = some (.slice none 0 0) := H2.out.2.2.1.cell 2
  have z3 : w2.cell? ⟨w.heap.size + 1 + 1, 3, none⟩ = some (.slice none 0 0) := H2.out.2.2.1.cell 3
  obtain ⟨M', hM'⟩ : ∃ M', Hid (monthOf n0 = M') := ⟨_, rfl⟩
  obtain ⟨D', hD'⟩ : ∃ D', Hid (dayOf n0 = D') := ⟨_, rfl⟩
  rw [hM'.out, hD'.out]
  have HFy : ∀ w, (Instr.field 74 (.agg #[.int .i64 Y0, .int .i64 M', .int .i64 D']) 0).run Try.prog w = .ok (.int .i64 Y0) w := fun _ => by kernel_rfl
  go_wp2_with fail
  refine wp_loop_rounds 1 ?_
  rw [rounds_succ]
  go_wp2_with fail
  refine (offset_any (sec + 1) _).mono ?_
  rintro e w3 ⟨rfl, hb⟩
  clear z0 z1 z2 z3
  have H3 : Hid (w3.rangeAt w.heap.size 0 (fieldsL s) ∧ RowAt w3 (w.heap.size + 1) 24 #[.int .i64 sec, .int .i64 ns] ∧ RowAt w3 (w.heap.size + 1 + 1) 29 #[.slice none 0 0, .slice none 0 0, .slice none 0 0, .slice none 0 0] ∧ RowAt w3 (w.heap.size + 1 + 1 + 1) 24 #[.int .i64 0, .int .i64 0] ∧ Below w.heap.size w w3) := Lib.hid ⟨rangeAt_below H2.out.1 hb, H2.out.2.1.below hb, H2.out.2.2.1.below hb, H2.out.2.2.2.1.below hb, H2.out.2.2.2.2.trans ((hb).mono H2.out.2.2.2.2.size)⟩
  clear hb H2
  have z0 : w3.cell? ⟨w.heap.size + 1 + 1, 0, none⟩ = some (.slice none 0 0) := H3.out.2.2.1.cell 0
  have z1 : w3.cell? ⟨w.heap.size + 1 + 1, 1, none⟩ = some (.slice none 0 0) := H3.out.2.2.1.cell 1
  have z2 : w3.cell? ⟨w.heap.size + 1 + 1, 2, none⟩ = some (.slice none 0 0) := H3.out.2.2.1.cell 2
  have z3 : w3.cell? ⟨w.heap.size + 1 + 1, 3, none⟩ = some (.slice none 0 0) := H3.out.2.2.1.cell 3
  go_wp2_with fail
  refine (change_any (sec + 1) _).mono ?_
  rintro e w4 ⟨rfl, hb⟩
  clear z0 z1 z2 z3
  have H4 : Hid (w4.rangeAt w.heap.size 0 (fieldsL s) ∧ RowAt w4 (w.heap.size + 1) 24 #[.int .i64 sec, .int .i64 ns] ∧ RowAt w4 (w.heap.size + 1 + 1) 29 #[.slice none 0 0, .slice none 0 0, .slice none 0 0, .slice none 0 0] ∧ RowAt w4 (w.heap.size + 1 + 1 + 1) 24 #[.int .i64 0, .int .i64 0] ∧ Below w.heap.size w w4) := Lib.hid ⟨rangeAt_below H3.out.1 hb, H3.out.2.1.below hb, H3.out.2.2.1.below hb, H3.out.2.2.2.1.below hb, H3.out.2.2.2.2.trans ((hb).mono H3.out.2.2.2.2.size)⟩
  clear hb H3
  have z0 : w4.cell? ⟨w.heap.size + 1 + 1, 0, none⟩ = some (.slice none 0 0) := H4.out.2.2.1.cell 0
  have z1 : w4.cell? ⟨w.heap.size + 1 + 1, 1, none⟩ = some (.slice none 0 0) := H4.out.2.2.1.cell 1
  have z2 : w4.cell? ⟨w.heap.size + 1 + 1, 2, none⟩ = some (.slice none 0 0) := H4.out.2.2.1.cell 2
  have z3 : w4.cell? ⟨w.heap.size + 1 + 1, 3, none⟩ = some (.slice none 0 0) := H4.out.2.2.1.cell 3
  go_wp2_with (first | (refine wpList_load_mid rfl 46 (.tmp 3) rfl w.heap.size 0 (by simp [Act.eval]) (fieldsL s) _ H4.out.1 Try.underlying46 rfl (infoCF.trans (by rw [fieldsL_len])) (stop_here ?_)))
  rw [← hA.out]
  unfold Stop
  go_wp2_with fail
  refine (local_any A s hA (sec + 1) first (Y0 + 5) hfr (by have := Hf.out; omega) (by have := Hf.out; omega) (by omega) (by omega) (Lib.hid (by rw [Hf.out, HY0.out]; omega)) _).mono ?_
  rintro e w5 ⟨r, hr, rfl, hb⟩
  clear z0 z1 z2 z3
  have H5 : Hid (w5.rangeAt w.heap.size 0 (fieldsL s) ∧ RowAt w5 (w.heap.size + 1) 24 #[.int .i64 sec, .int .i64 ns] ∧ RowAt w5 (w.heap.size + 1 + 1) 29 #[.slice none 0 0, .slice none 0 0, .slice none 0 0, .slice none 0 0] ∧ RowAt w5 (w.heap.size + 1 + 1 + 1) 24 #[.int .i64 0, .int .i64 0] ∧ Below w.heap.size w w5) := Lib.hid ⟨rangeAt_below H4.out.1 hb, H4.out.2.1.below hb, H4.out.2.2.1.below hb, H4.out.2.2.2.1.below hb, H4.out.2.2.2.2.trans ((hb).mono H4.out.2.2.2.2.size)⟩
  clear hb H4
  have z0 : w5.cell? ⟨w.heap.size + 1 + 1, 0, none⟩ = some (.slice none 0 0) := H5.out.2.2.1.cell 0
  have z1 : w5.cell? ⟨w.heap.size + 1 + 1, 1, none⟩ = some (.slice none 0 0) := H5.out.2.2.1.cell 1
  have z2 : w5.cell? ⟨w.heap.size + 1 + 1, 2, none⟩ = some (.slice none 0 0) := H5.out.2.2.1.cell 2
  have z3 : w5.cell? ⟨w.heap.size + 1 + 1, 3, none⟩ = some (.slice none 0 0) := H5.out.2.2.1.cell 3
  have rb := hr.out.bd (by have := Hf.out; omega) (by omega)
  obtain ⟨x, Hx⟩ : ∃ x, Hid (ansX r = x) := ⟨_, rfl⟩
  obtain ⟨bb, Hb⟩ : ∃ bb, Hid (ansB r = bb) := ⟨_, rfl⟩
  have xb : -62135596800 ≤ x ∧ x ≤ 319000000000 := by have := Hx.out; unfold ansX at this; split at this <;> omega
  rw [Hx.out, Hb.out]
  have c0 : w5.cell? ⟨w.heap.size + 1 + 1 + 1, 0, none⟩ = some (.int .i64 0) := H5.out.2.2.2.1.cell 0
  have c1 : w5.cell? ⟨w.heap.size + 1 + 1 + 1, 1, none⟩ = some (.int .i64 0) := H5.out.2.2.2.1.cell 1
  have f0 := H5.out.2.2.2.1.free 0
  have f1 := H5.out.2.2.2.1.free 1
  cases bb with
  | true =>
    go_wp2_with fail
    refine bodyPost_ret (v := .tuple #[.agg #[.int .i64 x, .int .i64 0], .bool true]) (by simp [results, Try.results17, go_sem, c0, c1, f0, f1]) rfl ⟨r, hr, by rw [Hx.out, Hb.out], ?_⟩
    have := H5.out.2.2.2.2
    exact (by repeat (first | (with_reducible assumption) | (with_reducible exact Below.refl _ _) | (with_reducible refine Below.setCell ?_ (by first | omega | (simp <;> omega)) _) | refine below_drewN ?_ _ | refine Below.drew ?_ | refine Below.alloc ?_ (by first | omega | (simp <;> omega)) _))
  | false =>
    have r0 : r = 0 := by have := Hb.out; unfold ansB at this; have := of_decide_eq_false this; omega
    have x0 : x = 0 := by rw [← Hx.out, r0]; rfl
    subst x0
    go_wp2_with fail
    refine bodyPost_ret (v := .tuple #[.agg #[.int .i64 0, .int .i64 0], .bool false]) (by simp [results, Try.results17, go_sem, c0, c1, f0, f1]) rfl ⟨r, hr, by rw [Hx.out, Hb.out], ?_⟩
    have := H5.out.2.2.2.2
    exact (by repeat (first | (with_reducible assumption) | (with_reducible exact Below.refl _ _) | (with_reducible refine Below.setCell ?_ (by first | omega | (simp <;> omega)) _) | refine below_drewN ?_ _ | refine Below.drew ?_ | refine Below.alloc ?_ (by first | omega | (simp <;> omega)) _))

end Go.Proofs.Ytpgclepiagfgfaa
