/- laws.FnCronDaily. -/
import Derived.Test.YtpgclepiagfgfaaTsX
namespace Go.Proofs.Ytpgclepiagfgfaa
open Go.RowKit
set_option linter.unusedVariables false
set_option linter.unusedSimpArgs false

theorem Rws.swap {w W : World} {a b : Nat × TypeId × Array Value} {L : List (Nat × TypeId × Array Value)} (h : Rws w W (a :: b :: L)) : Rws w W (b :: a :: L) :=
  ⟨fun r hr => h.1 r (by simp only [List.mem_cons] at hr ⊢; rcases hr with h | h | h <;> simp [h]), h.2⟩
theorem Rws.set1 {w W : World} {p : Nat} {t : TypeId} {cs : Array Value} {L : List (Nat × TypeId × Array Value)} (h : Rws w W ((p, t, cs) :: L)) (hl : ∀ r ∈ L, r.1 ≠ p) (hp : w.heap.size ≤ p) (i : Nat) (b : Value) :
    Rws w (W.setCell ⟨p, i, none⟩ b) ((p, t, cs.setIfInBounds i b) :: L) := by
  refine ⟨fun r hr => ?_, h.2.setCell (p := ⟨p, i, none⟩) hp b⟩
  rcases List.mem_cons.1 hr with rfl | hr
  · exact heap_setCell_same _ p i _ _ _ h.at0
  · have hne : r.1 ≠ p := hl r hr
    show RowAt _ _ _ _
    unfold RowAt
    rw [Below.heap_setCell _ _ _ _ hne]
    exact h.1 r (List.mem_cons_of_mem _ hr)
theorem Rws.set8 {w W : World} {p : Nat} {t : TypeId} {a0 a1 a2 a3 a4 a5 a6 a7 : Value} {L : List (Nat × TypeId × Array Value)} (h : Rws w W ((p, t, #[a0, a1, a2, a3, a4, a5, a6, a7]) :: L)) (hl : ∀ r ∈ L, r.1 ≠ p) (hp : w.heap.size ≤ p) (b0 b1 b2 b3 b4 b5 b6 b7 : Value) :
    Rws w ((((((((W.setCell ⟨p, 0, none⟩ b0).setCell ⟨p, 1, none⟩ b1).setCell ⟨p, 2, none⟩ b2).setCell ⟨p, 3, none⟩ b3).setCell ⟨p, 4, none⟩ b4).setCell ⟨p, 5, none⟩ b5).setCell ⟨p, 6, none⟩ b6).setCell ⟨p, 7, none⟩ b7) ((p, t, #[b0, b1, b2, b3, b4, b5, b6, b7]) :: L) := by
  have k := (((((((h.set1 hl hp 0 b0).set1 hl hp 1 b1).set1 hl hp 2 b2).set1 hl hp 3 b3).set1 hl hp 4 b4).set1 hl hp 5 b5).set1 hl hp 6 b6).set1 hl hp 7 b7
  simpa only [List.setIfInBounds_toArray, List.set_cons_zero, List.set_cons_succ] using k

set_option maxHeartbeats 400000 in
theorem each_all (s s2 : Sched) (h2 : Hid (s2 = allS s)) (ev : Bool) (dl : Int) (w : World) :
    Calls Try.prog 28 #[.agg #[.bool ev, .int .i64 dl, .int .u64 s.se, .int .u64 s.mi, .int .u64 s.ho, .int .u64 s.dom, .int .u64 s.mo, .int .u64 s.dow]] w fun e w' => e = .returned (.agg #[.bool ev, .int .i64 dl, .int .u64 s2.se, .int .u64 s2.mi, .int .u64 s2.ho, .int .u64 s2.dom, .int .u64 s2.mo, .int .u64 s2.dow]) ∧ Below w.heap.size w w' := by
  rw [h2.out]
  exact each_any s ev dl _ _ _ (Lib.hid all_3) (Lib.hid all_4) (Lib.hid all_5) w

theorem daily_use {s s2 : Sched} (h2 : s2 = allS s) {sec sec2 days first first2 Y0 Y02 r r2 x x2 : Int} {b b2 : Bool} (hf : first = sec + 62135596800 + 1) (hf2 : first2 = sec2 + 62135596800 + 1)
    (hY : yearOf (dayN (sec + 62135596800 + 1)) = Y0) (hY2 : yearOf (dayN (sec2 + 62135596800 + 1)) = Y02) (hs : sec2 = sec + 86400 * days) (h0 : -62135596800 ≤ sec) (h1 : sec ≤ 253402300799) (h02 : -62135596800 ≤ sec2)
    (hr : NextIs s2 first (Y0 + 5) r) (hr2 : NextIs s2 first2 (Y02 + 5) r2) (hx : ansX r = x ∧ ansB r = b) (hx2 : ansX r2 = x2 ∧ ansB r2 = b2) :
    (neverB s2 = true → b = false ∧ b2 = false) ∧ (neverB s2 = false → b = true ∧ b2 = true ∧ x2 = x + 86400 * days ∧ -100000000000 ≤ x ∧ x ≤ 400000000000) := by
  subst h2
  have e1 : yr first = Y0 := by rw [hf]; exact hY
  have e2 : yr first2 = Y02 := by rw [hf2]; exact hY2
  rw [← e1] at hr
  rw [← e2] at hr2
  obtain ⟨p, q⟩ := daily_plain (d := days) (by omega) hr hr2 (by omega) (by omega)
  rw [never_all]
  constructor
  · intro hn
    obtain ⟨rfl, rfl⟩ := p hn
    exact ⟨by rw [← hx.2]; rfl, by rw [← hx2.2]; rfl⟩
  · intro hn
    obtain ⟨a, c, d⟩ := q hn
    have z1 : x = r - 62135596800 := by rw [← hx.1]; unfold ansX; rw [if_neg (by omega)]
    have z2 : x2 = r2 - 62135596800 := by rw [← hx2.1]; unfold ansX; rw [if_neg (by omega)]
    have z3 := (all_next hr hn (by omega)).2
    refine ⟨by rw [← hx.2]; exact decide_eq_true a, by rw [← hx2.2]; exact decide_eq_true c, by omega, by omega, by omega⟩
theorem Rws.put8 {w W : World} {p : Nat} {t : TypeId} {a0 a1 a2 a3 a4 a5 a6 a7 : Value} {L : List (Nat × TypeId × Array Value)} (h : Rws w W ((p, t, #[a0, a1, a2, a3, a4, a5, a6, a7]) :: L)) (hl : ∀ r ∈ L, r.1 ≠ p) (hp : w.heap.size ≤ p) (b0 b1 b2 b3 b4 b5 b6 b7 : Value) :
    Rws w (W.setCells p 0 [b0, b1, b2, b3, b4, b5, b6, b7]) ((p, t, #[b0, b1, b2, b3, b4, b5, b6, b7]) :: L) := h.set8 hl hp b0 b1 b2 b3 b4 b5 b6 b7
theorem RowAt.thereAll {w : World} {g : Nat} {t : TypeId} {cs : Array Value} (h : RowAt w g t cs) : w.there g 0 cs.size := fun j hj => ⟨by rw [show 0 + j = j by omega, h.cell j]; simp [hj], h.free _⟩
theorem infoSch : (Try.prog.info? 38).map (·.size) = some 8 := by kernel_rfl
theorem sch_one (b : Bool) (d a0 a1 a2 a3 a4 a5 : Int) : (#[.bool b, .int .i64 d, .int .u64 a0, .int .u64 a1, .int .u64 a2, .int .u64 a3, .int .u64 a4, .int .u64 a5] : Array Value).all (·.oneCell') = true := all_oneCell_toArray (by intro v hv; simp at hv; rcases hv with rfl | rfl | rfl | rfl | rfl | rfl | rfl | rfl <;> rfl)
theorem starLt (low high : Nat) : starV low high < 18446744073709551616 := Nat.or_lt_two_pow (n := 64) (GB_lt _ _ _) (by decide)
theorem all_ok {s : Sched} (h : s.ok) : (allS s).ok := ⟨h.1, h.2.1, h.2.2.1, starLt 1 31, starLt 1 12, starLt 0 6⟩

set_option maxRecDepth 100000 in
set_option maxHeartbeats 8000000 in
theorem daily_law (s : Sched) (hok : Hid s.ok) (ev : Bool) (dl sec ns days : Int) (w : World) :
    Calls Try.prog 8 #[.agg #[.bool ev, .int .i64 dl, .int .u64 s.se, .int .u64 s.mi, .int .u64 s.ho, .int .u64 s.dom, .int .u64 s.mo, .int .u64 s.dow], .agg #[.int .i64 sec, .int .i64 ns], .int .i64 days] w fun e w' => e = .returned (.bool true) ∧ Below w.heap.size w w' := by
  obtain ⟨s2, h2⟩ : ∃ s2, Hid (s2 = allS s) := ⟨_, rfl⟩
  have hok2 : Hid s2.ok := Lib.hid (by rw [h2.out]; exact all_ok hok.out)
  obtain ⟨g1, Hg1⟩ : ∃ g1, Hid ((!ev && goodB sec ns) = g1) := ⟨_, rfl⟩
  cases g1 with
  | true =>
    have hgp := good_parts Hg1.out
    obtain ⟨rfl, h0, h1, hn0, hn1⟩ := hgp
    by_cases d1 : days < -1000000
    · obtain ⟨sec2, hs2⟩ : ∃ sec2, wrap64 (sec + wrap64 (86400 * days)) = sec2 := ⟨_, rfl⟩
      go_enter Try.func8, Try.ntmps8
      go_wp2_with fail
      refine (each_all s s2 h2 false dl _).mono ?_
      rintro e w1 ⟨rfl, hb⟩
      have HR1 := Lib.hid ((((rws0 w).alloc _ rfl #[.bool false, .int .i64 dl, .int .u64 s.se, .int .u64 s.mi, .int .u64 s.ho, .int .u64 s.dom, .int .u64 s.mo, .int .u64 s.dow] 38).alloc (w.heap.size + 1) (by simp) #[.int .i64 sec, .int .i64 ns] 24).below hb)
      clear hb
      have HS := Lib.hid (HR1.out.swap.put8 (by intro r hr; simp at hr; subst hr; simp) (Nat.le_refl _) (.bool false) (.int .i64 dl) (.int .u64 s2.se) (.int .u64 s2.mi) (.int .u64 s2.ho) (.int .u64 s2.dom) (.int .u64 s2.mo) (.int .u64 s2.dow)).swap
      have hT : w1.there w.heap.size 0 8 := HR1.out.at1.thereAll
      go_wp2_with (first | (refine wpList_store_mid rfl 38 (.tmp 3) (.tmp 13) rfl w.heap.size 0 #[.bool false, .int .i64 dl, .int .u64 s2.se, .int .u64 s2.mi, .int .u64 s2.ho, .int .u64 s2.dom, .int .u64 s2.mo, .int .u64 s2.dow] (by simp [Act.eval]) (by simp [Act.eval]) hT infoSch (sch_one _ _ _ _ _ _ _ _) (stop_here ?_)))
      clear hT HR1
      generalize w1.setCells w.heap.size 0 _ = W1 at HS ⊢
      have t0 : W1.cell? ⟨w.heap.size + 1, 0, none⟩ = some (.int .i64 sec) := HS.out.at0.cell 0
      have t1 : W1.cell? ⟨w.heap.size + 1, 1, none⟩ = some (.int .i64 ns) := HS.out.at0.cell 1
      have q0 : W1.cell? ⟨w.heap.size, 0, none⟩ = some (.bool false) := HS.out.at1.cell 0
      have q1 : W1.cell? ⟨w.heap.size, 1, none⟩ = some (.int .i64 dl) := HS.out.at1.cell 1
      have q2 : W1.cell? ⟨w.heap.size, 2, none⟩ = some (.int .u64 s2.se) := HS.out.at1.cell 2
      have q3 : W1.cell? ⟨w.heap.size, 3, none⟩ = some (.int .u64 s2.mi) := HS.out.at1.cell 3
      have q4 : W1.cell? ⟨w.heap.size, 4, none⟩ = some (.int .u64 s2.ho) := HS.out.at1.cell 4
      have q5 : W1.cell? ⟨w.heap.size, 5, none⟩ = some (.int .u64 s2.dom) := HS.out.at1.cell 5
      have q6 : W1.cell? ⟨w.heap.size, 6, none⟩ = some (.int .u64 s2.mo) := HS.out.at1.cell 6
      have q7 : W1.cell? ⟨w.heap.size, 7, none⟩ = some (.int .u64 s2.dow) := HS.out.at1.cell 7
      have hl0 : w.heap.size < W1.heap.size := HS.out.at1.lt
      have hl1 : w.heap.size + 1 < W1.heap.size := HS.out.at0.lt
      have hl2 : ¬ (w.heap.size = W1.heap.size) := by omega
      have hl3 : ¬ (w.heap.size + 1 = W1.heap.size) := by omega
      unfold Stop
      go_wp2_with fail
      rw [hs2]
      have HB := Lib.hid (HS.out.alloc W1.heap.size rfl #[.int .i64 sec2, .int .i64 ns] 24)
      clear HS t0 t1 hl0 hl1 hl2 hl3 q0 q1 q2 q3 q4 q5 q6 q7
      generalize W1.heap.size = p0 at HB ⊢
      refine (case_any s2 false dl sec ns _).mono ?_
      rintro e w2 ⟨rfl, hb⟩
      rw [Hg1.out]
      have HQ := Lib.hid (HB.out.below hb)
      clear hb HB
      go_wp2_with fail
      go_ret
      exact ⟨rfl, HQ.out.2⟩
    · by_cases d2 : 1000000 < days
      · obtain ⟨sec2, hs2⟩ : ∃ sec2, wrap64 (sec + wrap64 (86400 * days)) = sec2 := ⟨_, rfl⟩
        go_enter Try.func8, Try.ntmps8
        go_wp2_with fail
        refine (each_all s s2 h2 false dl _).mono ?_
        rintro e w1 ⟨rfl, hb⟩
        have HR1 := Lib.hid ((((rws0 w).alloc _ rfl #[.bool false, .int .i64 dl, .int .u64 s.se, .int .u64 s.mi, .int .u64 s.ho, .int .u64 s.dom, .int .u64 s.mo, .int .u64 s.dow] 38).alloc (w.heap.size + 1) (by simp) #[.int .i64 sec, .int .i64 ns] 24).below hb)
        clear hb
        have HS := Lib.hid (HR1.out.swap.put8 (by intro r hr; simp at hr; subst hr; simp) (Nat.le_refl _) (.bool false) (.int .i64 dl) (.int .u64 s2.se) (.int .u64 s2.mi) (.int .u64 s2.ho) (.int .u64 s2.dom) (.int .u64 s2.mo) (.int .u64 s2.dow)).swap
        have hT : w1.there w.heap.size 0 8 := HR1.out.at1.thereAll
        go_wp2_with (first | (refine wpList_store_mid rfl 38 (.tmp 3) (.tmp 13) rfl w.heap.size 0 #[.bool false, .int .i64 dl, .int .u64 s2.se, .int .u64 s2.mi, .int .u64 s2.ho, .int .u64 s2.dom, .int .u64 s2.mo, .int .u64 s2.dow] (by simp [Act.eval]) (by simp [Act.eval]) hT infoSch (sch_one _ _ _ _ _ _ _ _) (stop_here ?_)))
        clear hT HR1
        generalize w1.setCells w.heap.size 0 _ = W1 at HS ⊢
        have t0 : W1.cell? ⟨w.heap.size + 1, 0, none⟩ = some (.int .i64 sec) := HS.out.at0.cell 0
        have t1 : W1.cell? ⟨w.heap.size + 1, 1, none⟩ = some (.int .i64 ns) := HS.out.at0.cell 1
        have q0 : W1.cell? ⟨w.heap.size, 0, none⟩ = some (.bool false) := HS.out.at1.cell 0
        have q1 : W1.cell? ⟨w.heap.size, 1, none⟩ = some (.int .i64 dl) := HS.out.at1.cell 1
        have q2 : W1.cell? ⟨w.heap.size, 2, none⟩ = some (.int .u64 s2.se) := HS.out.at1.cell 2
        have q3 : W1.cell? ⟨w.heap.size, 3, none⟩ = some (.int .u64 s2.mi) := HS.out.at1.cell 3
        have q4 : W1.cell? ⟨w.heap.size, 4, none⟩ = some (.int .u64 s2.ho) := HS.out.at1.cell 4
        have q5 : W1.cell? ⟨w.heap.size, 5, none⟩ = some (.int .u64 s2.dom) := HS.out.at1.cell 5
        have q6 : W1.cell? ⟨w.heap.size, 6, none⟩ = some (.int .u64 s2.mo) := HS.out.at1.cell 6
        have q7 : W1.cell? ⟨w.heap.size, 7, none⟩ = some (.int .u64 s2.dow) := HS.out.at1.cell 7
        have hl0 : w.heap.size < W1.heap.size := HS.out.at1.lt
        have hl1 : w.heap.size + 1 < W1.heap.size := HS.out.at0.lt
        have hl2 : ¬ (w.heap.size = W1.heap.size) := by omega
        have hl3 : ¬ (w.heap.size + 1 = W1.heap.size) := by omega
        unfold Stop
        go_wp2_with fail
        rw [hs2]
        have HB := Lib.hid (HS.out.alloc W1.heap.size rfl #[.int .i64 sec2, .int .i64 ns] 24)
        clear HS t0 t1 hl0 hl1 hl2 hl3 q0 q1 q2 q3 q4 q5 q6 q7
        generalize W1.heap.size = p0 at HB ⊢
        refine (case_any s2 false dl sec ns _).mono ?_
        rintro e w2 ⟨rfl, hb⟩
        rw [Hg1.out]
        have HQ := Lib.hid (HB.out.below hb)
        clear hb HB
        go_wp2_with fail
        go_ret
        exact ⟨rfl, HQ.out.2⟩
      · have d1' : -1000000 ≤ days := by omega
        have d2' : days ≤ 1000000 := by omega
        obtain ⟨sec2, hs2⟩ : ∃ sec2, sec + 86400 * days = sec2 := ⟨_, rfl⟩
        have Hs2 := Lib.hid hs2
        obtain ⟨g2, Hg2⟩ : ∃ g2, Hid (goodB sec2 ns = g2) := ⟨_, rfl⟩
        clear hs2
        go_enter Try.func8, Try.ntmps8
        go_wp2_with fail
        refine (each_all s s2 h2 false dl _).mono ?_
        rintro e w1 ⟨rfl, hb⟩
        have HR1 := Lib.hid ((((rws0 w).alloc _ rfl #[.bool false, .int .i64 dl, .int .u64 s.se, .int .u64 s.mi, .int .u64 s.ho, .int .u64 s.dom, .int .u64 s.mo, .int .u64 s.dow] 38).alloc (w.heap.size + 1) (by simp) #[.int .i64 sec, .int .i64 ns] 24).below hb)
        clear hb
        have HS := Lib.hid (HR1.out.swap.put8 (by intro r hr; simp at hr; subst hr; simp) (Nat.le_refl _) (.bool false) (.int .i64 dl) (.int .u64 s2.se) (.int .u64 s2.mi) (.int .u64 s2.ho) (.int .u64 s2.dom) (.int .u64 s2.mo) (.int .u64 s2.dow)).swap
        have hT : w1.there w.heap.size 0 8 := HR1.out.at1.thereAll
        go_wp2_with (first | (refine wpList_store_mid rfl 38 (.tmp 3) (.tmp 13) rfl w.heap.size 0 #[.bool false, .int .i64 dl, .int .u64 s2.se, .int .u64 s2.mi, .int .u64 s2.ho, .int .u64 s2.dom, .int .u64 s2.mo, .int .u64 s2.dow] (by simp [Act.eval]) (by simp [Act.eval]) hT infoSch (sch_one _ _ _ _ _ _ _ _) (stop_here ?_)))
        clear hT HR1
        generalize w1.setCells w.heap.size 0 _ = W1 at HS ⊢
        have t0 : W1.cell? ⟨w.heap.size + 1, 0, none⟩ = some (.int .i64 sec) := HS.out.at0.cell 0
        have t1 : W1.cell? ⟨w.heap.size + 1, 1, none⟩ = some (.int .i64 ns) := HS.out.at0.cell 1
        have q0 : W1.cell? ⟨w.heap.size, 0, none⟩ = some (.bool false) := HS.out.at1.cell 0
        have q1 : W1.cell? ⟨w.heap.size, 1, none⟩ = some (.int .i64 dl) := HS.out.at1.cell 1
        have q2 : W1.cell? ⟨w.heap.size, 2, none⟩ = some (.int .u64 s2.se) := HS.out.at1.cell 2
        have q3 : W1.cell? ⟨w.heap.size, 3, none⟩ = some (.int .u64 s2.mi) := HS.out.at1.cell 3
        have q4 : W1.cell? ⟨w.heap.size, 4, none⟩ = some (.int .u64 s2.ho) := HS.out.at1.cell 4
        have q5 : W1.cell? ⟨w.heap.size, 5, none⟩ = some (.int .u64 s2.dom) := HS.out.at1.cell 5
        have q6 : W1.cell? ⟨w.heap.size, 6, none⟩ = some (.int .u64 s2.mo) := HS.out.at1.cell 6
        have q7 : W1.cell? ⟨w.heap.size, 7, none⟩ = some (.int .u64 s2.dow) := HS.out.at1.cell 7
        have hl0 : w.heap.size < W1.heap.size := HS.out.at1.lt
        have hl1 : w.heap.size + 1 < W1.heap.size := HS.out.at0.lt
        have hl2 : ¬ (w.heap.size = W1.heap.size) := by omega
        have hl3 : ¬ (w.heap.size + 1 = W1.heap.size) := by omega
        unfold Stop
        go_wp2_with fail
        rw [Hs2.out]
        have HB := Lib.hid (HS.out.alloc W1.heap.size rfl #[.int .i64 sec2, .int .i64 ns] 24)
        clear HS t0 t1 hl0 hl1 hl2 hl3 q0 q1 q2 q3 q4 q5 q6 q7
        generalize W1.heap.size = p0 at HB ⊢
        refine (case_any s2 false dl sec ns _).mono ?_
        rintro e w2 ⟨rfl, hb⟩
        rw [Hg1.out]
        have HQ := Lib.hid (HB.out.below hb)
        clear hb HB
        have u0 : w2.cell? ⟨p0, 0, none⟩ = some (.int .i64 sec2) := HQ.out.at0.cell 0
        have u1 : w2.cell? ⟨p0, 1, none⟩ = some (.int .i64 ns) := HQ.out.at0.cell 1
        go_wp2_with fail
        refine (good_any sec2 ns _).mono ?_
        rintro e w3 ⟨rfl, hb⟩
        rw [Hg2.out]
        have HQ3 := Lib.hid (HQ.out.below hb)
        clear hb HQ u0 u1
        cases g2 with
        | false =>
          go_wp2_with fail
          go_ret
          exact ⟨rfl, HQ3.out.2⟩
        | true =>
          obtain ⟨ns, rfl⟩ : ∃ n : Nat, ns = n := ⟨ns.toNat, by omega⟩
          have hn : ns < 1000000000 := by omega
          have hgp2 := good_parts (ev := false) (sec := sec2) (ns := ns) (by rw [Hg2.out]; rfl)
          obtain ⟨-, h02, h12, -, -⟩ := hgp2
          clear hn0 hn1
          obtain ⟨first, Hf⟩ : ∃ first, Hid (first = sec + 62135596800 + 1) := ⟨_, rfl⟩
          obtain ⟨Y0, HY0⟩ : ∃ Y0, Hid (yearOf (dayN (sec + 62135596800 + 1)) = Y0) := ⟨_, rfl⟩
          have yb0 : 1 ≤ Y0 ∧ Y0 ≤ 10000 := by have := first_year sec h0 h1; have := HY0.out; omega
          obtain ⟨r, hr0⟩ := nextIs_exists s2 first (Y0 + 5)
          have hr := Lib.hid hr0
          obtain ⟨x, b, hx⟩ : ∃ x b, Hid (ansX r = x ∧ ansB r = b) := ⟨_, _, Lib.hid ⟨rfl, rfl⟩⟩
          clear hr0
          obtain ⟨first2, Hf2⟩ : ∃ first, Hid (first = sec2 + 62135596800 + 1) := ⟨_, rfl⟩
          obtain ⟨Y02, HY02⟩ : ∃ Y0, Hid (yearOf (dayN (sec2 + 62135596800 + 1)) = Y0) := ⟨_, rfl⟩
          have yb02 : 1 ≤ Y02 ∧ Y02 ≤ 10000 := by have := first_year sec2 h02 h12; have := HY02.out; omega
          obtain ⟨r2, hr02⟩ := nextIs_exists s2 first2 (Y02 + 5)
          have hr2 := Lib.hid hr02
          obtain ⟨x2, b2, hx2⟩ : ∃ x b, Hid (ansX r2 = x ∧ ansB r2 = b) := ⟨_, _, Lib.hid ⟨rfl, rfl⟩⟩
          clear hr02
          obtain ⟨A, hA⟩ : ∃ A, Hid (A = (fieldsL s2).toArray) := ⟨_, rfl⟩
          have hd := daily_use h2.out Hf.out Hf2.out HY0.out HY02.out Hs2.out.symm h0 h1 h02 hr.out hr2.out hx.out hx2.out
          obtain ⟨k, hk⟩ : ∃ k, 86400 * days = k := ⟨_, rfl⟩
          have hk0 : -100000000000 ≤ k := by omega
          have hk1 : k ≤ 100000000000 := by omega
          rw [hk] at hd
          have Hd := Lib.hid hd
          have Hk := Lib.hid hk
          clear hd hk
          go_wp2_with fail
          obtain ⟨L0, HL0⟩ : ∃ L0 : List (Nat × TypeId × Array Value), Hid (L0 = [(p0, 24, #[.int .i64 sec2, .int .i64 ns]), (w.heap.size + 1, 24, #[.int .i64 sec, .int .i64 ns]), (w.heap.size, 38, #[.bool false, .int .i64 dl, .int .u64 s2.se, .int .u64 s2.mi, .int .u64 s2.ho, .int .u64 s2.dom, .int .u64 s2.mo, .int .u64 s2.dow])]) := ⟨_, rfl⟩
          rw [← HL0.out] at HQ3
          refine reg_framex (fun p => [(40, .agg #[.bool false, .int .i64 dl, .int .u64 s2.se, .int .u64 s2.mi, .int .u64 s2.ho, .int .u64 s2.dom, .int .u64 s2.mo, .int .u64 s2.dow]), (41, .agg #[.int .i64 sec, .int .i64 ns]), (42, .agg #[.slice none 0 0, .slice none 0 0, .slice none 0 0, .slice none 0 0]), (43, .tuple #[.agg #[.int .i64 x, .int .i64 0], .bool b]), (39, .tuple #[.agg #[.int .i64 x, .int .i64 0], .bool b]), (44, .agg #[.int .i64 x, .int .i64 0]), (45, .bool b), (8, .pointer (some ⟨p, 0, none⟩)), (9, .bool b)]) (fun p w' => Rws w w' ((p, 24, #[.int .i64 x, .int .i64 0]) :: L0)) ?reg ?hq
          case reg =>
            have HFd : Hid (Rws w w3.drew L0) := Lib.hid HQ3.out.drew
            refine wp_region_held_drew (S := fun w' => Hid (Rws w w' L0)) (by kernel_rfl) HFd (fun hHeld => ?_)
            generalize w3.drew = Wd at HFd hHeld ⊢
            (try simp only [Act.put, List.getElem_toArray, List.getElem_cons_zero, List.getElem_cons_succ, List.setIfInBounds_toArray, List.set_cons_zero, List.set_cons_succ])
            refine wpAnyH_take (i := 0) (v := ?_) rfl (by kernel_rfl) (by kernel_rfl) (by kernel_rfl) (fun _ _ _ h => nomatch h.1) (Or.inl ⟨by rfl, ?_⟩) (by assumption) ?_
            rotate_left
            · (intro wx hSw; have hSx := hSw.out; rw [HL0.out] at hSx; have k0 : wx.cell? ⟨w.heap.size, 0, none⟩ = some (.bool false) := hSx.tail.tail.at0.cell 0; have k1 : wx.cell? ⟨w.heap.size, 1, none⟩ = some (.int .i64 dl) := hSx.tail.tail.at0.cell 1; have k2 : wx.cell? ⟨w.heap.size, 2, none⟩ = some (.int .u64 s2.se) := hSx.tail.tail.at0.cell 2; have k3 : wx.cell? ⟨w.heap.size, 3, none⟩ = some (.int .u64 s2.mi) := hSx.tail.tail.at0.cell 3; have k4 : wx.cell? ⟨w.heap.size, 4, none⟩ = some (.int .u64 s2.ho) := hSx.tail.tail.at0.cell 4; have k5 : wx.cell? ⟨w.heap.size, 5, none⟩ = some (.int .u64 s2.dom) := hSx.tail.tail.at0.cell 5; have k6 : wx.cell? ⟨w.heap.size, 6, none⟩ = some (.int .u64 s2.mo) := hSx.tail.tail.at0.cell 6; have k7 : wx.cell? ⟨w.heap.size, 7, none⟩ = some (.int .u64 s2.dow) := hSx.tail.tail.at0.cell 7; go_simp; (try with_reducible rfl))
            (try simp only [Act.put, List.getElem_toArray, List.getElem_cons_zero, List.getElem_cons_succ, List.setIfInBounds_toArray, List.set_cons_zero, List.set_cons_succ])
            refine wpAnyH_take (i := 1) (v := ?_) rfl (by kernel_rfl) (by kernel_rfl) (by kernel_rfl) (fun _ _ _ h => nomatch h.1) (Or.inl ⟨by rfl, ?_⟩) (by assumption) ?_
            rotate_left
            · (intro wx hSw; have hSx := hSw.out; rw [HL0.out] at hSx; have k0 : wx.cell? ⟨w.heap.size + 1, 0, none⟩ = some (.int .i64 sec) := hSx.tail.at0.cell 0; have k1 : wx.cell? ⟨w.heap.size + 1, 1, none⟩ = some (.int .i64 ns) := hSx.tail.at0.cell 1; go_simp; (try with_reducible rfl))
            (try simp only [Act.put, List.getElem_toArray, List.getElem_cons_zero, List.getElem_cons_succ, List.setIfInBounds_toArray, List.set_cons_zero, List.set_cons_succ])
            refine wpAnyH_ready (rs := [2, 7]) (by kernel_rfl) (by simp) ?_
            refine (AllReadyH.cons rfl (fun K hK => ?_) (AllReadyH.cons rfl (fun K hK => ?_) AllReadyH.nil))
            · go_simp
              go_at_call 19
              refine (cronUTC_any _).mono ?_
              rintro e v1 ⟨rfl, hb⟩
              have HF1 : Hid (Rws w v1 L0) := Lib.hid (HFd.out.below hb)
              clear hb HFd
              have HN : Hid (Rws w v1 L0) := Lib.hid HF1.out
              refine hK.out _ _ HN (fun hH2 => ?_)
              clear hK K hHeld
              have hHeld := hH2
              clear hH2
              (try simp only [Act.put, List.getElem_toArray, List.getElem_cons_zero, List.getElem_cons_succ, List.setIfInBounds_toArray, List.set_cons_zero, List.set_cons_succ])
              refine wpAnyH_ready (rs := [3, 7]) (by kernel_rfl) (by simp) ?_
              refine (AllReadyH.cons rfl (fun K hK => ?_) (AllReadyH.cons rfl (fun K hK => ?_) AllReadyH.nil))
              · go_simp
                go_at_call 20
                refine (implNext_fix s2 sec ns h0 h1 first Y0 Hf HY0 yb0 r x b hr hx hok2 dl hn _).mono ?_
                rintro e v2 ⟨rfl, hb⟩
                have HF2 : Hid (Rws w v2 L0) := Lib.hid (HF1.out.below hb)
                clear hb HF1
                have HN : Hid (Rws w v2 L0) := Lib.hid HF2.out
                refine hK.out _ _ HN (fun hH2 => ?_)
                clear hK K hHeld
                have hHeld := hH2
                clear hH2
                (try simp only [Act.put, List.getElem_toArray, List.getElem_cons_zero, List.getElem_cons_succ, List.setIfInBounds_toArray, List.set_cons_zero, List.set_cons_succ])
                refine wpAnyH_take (i := 4) (v := ?_) rfl (by kernel_rfl) (by kernel_rfl) (by kernel_rfl) (fun _ _ _ h => nomatch h.1) (Or.inl ⟨by rfl, ?_⟩) (by assumption) ?_
                rotate_left
                · (intro wx hSw; go_simp; (try with_reducible rfl))
                (try simp only [Act.put, List.getElem_toArray, List.getElem_cons_zero, List.getElem_cons_succ, List.setIfInBounds_toArray, List.set_cons_zero, List.set_cons_succ])
                refine wpAnyH_take (i := 5) (v := ?_) rfl (by kernel_rfl) (by kernel_rfl) (by kernel_rfl) (fun _ _ _ h => nomatch h.1) (Or.inl ⟨by rfl, ?_⟩) (by assumption) ?_
                rotate_left
                · (intro wx hSw; go_simp; (try with_reducible rfl))
                (try simp only [Act.put, List.getElem_toArray, List.getElem_cons_zero, List.getElem_cons_succ, List.setIfInBounds_toArray, List.set_cons_zero, List.set_cons_succ])
                refine wpAnyH_take (i := 6) (v := ?_) rfl (by kernel_rfl) (by kernel_rfl) (by kernel_rfl) (fun _ _ _ h => nomatch h.1) (Or.inl ⟨by rfl, ?_⟩) (by assumption) ?_
                rotate_left
                · (intro wx hSw; go_simp; (try with_reducible rfl))
                (try simp only [Act.put, List.getElem_toArray, List.getElem_cons_zero, List.getElem_cons_succ, List.setIfInBounds_toArray, List.set_cons_zero, List.set_cons_succ])
                refine wpAnyH_ready (rs := [7]) (by kernel_rfl) (by simp) ?_
                refine (AllReadyH.cons rfl (fun K hK => ?_) AllReadyH.nil)
                go_simp
                obtain ⟨p3, hp⟩ : ∃ p3, p3 = v2.heap.size := ⟨_, rfl⟩
                (try rw [← hp])
                have HLp3 : Hid ((∀ r ∈ L0, r.1 < p3) ∧ w.heap.size ≤ p3) := Lib.hid ⟨by rw [hp]; exact HF2.out.lt, by rw [hp]; exact HF2.out.2.size⟩
                have HF3 : Hid (Rws w (v2.alloc (.cells #[.int .i64 0, .int .i64 0] 24)) ((p3, 24, #[.int .i64 0, .int .i64 0]) :: L0)) := Lib.hid (HF2.out.alloc p3 hp _ _)
                clear HF2 hp
                refine kHeld hK.out (W := v2.alloc (.cells #[.int .i64 0, .int .i64 0] 24)) (Lib.hid HF3.out.tail) (fun hH2 => ?_)
                clear hK K hHeld
                have hHeld := hH2
                clear hH2
                generalize v2.alloc (.cells #[.int .i64 0, .int .i64 0] 24) = a3 at hHeld HF3 ⊢
                (try simp only [Act.put, List.getElem_toArray, List.getElem_cons_zero, List.getElem_cons_succ, List.setIfInBounds_toArray, List.set_cons_zero, List.set_cons_succ])
                refine wpAnyH_ready (rs := [8]) (by kernel_rfl) (by simp) ?_
                refine (AllReadyH.cons rfl (fun K hK => ?_) AllReadyH.nil)
                have c0 : a3.cell? ⟨p3, 0, none⟩ = some (.int .i64 0) := HF3.out.at0.cell 0
                have c1 : a3.cell? ⟨p3, 1, none⟩ = some (.int .i64 0) := HF3.out.at0.cell 1
                have f0 := HF3.out.at0.free 0
                have f1 := HF3.out.at0.free 1
                have HE : Hid (Rws w ((a3.setCell ⟨p3, 0, none⟩ (.int .i64 x)).setCell ⟨p3, 1, none⟩ (.int .i64 0)) ((p3, 24, #[.int .i64 x, .int .i64 0]) :: L0)) := Lib.hid (HF3.out.set2 HLp3.out.1 HLp3.out.2 _ _)
                have HN : Hid (Rws w ((a3.setCell ⟨p3, 0, none⟩ (.int .i64 x)).setCell ⟨p3, 1, none⟩ (.int .i64 0)) L0) := Lib.hid HE.out.tail
                go_simp
                refine hK.out _ _ HN (fun hH2 => ?_)
                clear hK K hHeld
                have hHeld := hH2
                clear hH2
                (try simp only [Act.put, List.getElem_toArray, List.getElem_cons_zero, List.getElem_cons_succ, List.setIfInBounds_toArray, List.set_cons_zero, List.set_cons_succ])
                refine wpAnyH_take (i := 9) (v := ?_) rfl (by kernel_rfl) (by kernel_rfl) (by kernel_rfl) (fun _ _ _ h => nomatch h.1) (Or.inl ⟨by rfl, ?_⟩) (by assumption) ?_
                rotate_left
                · (intro wx hSw; go_simp; (try with_reducible rfl))
                (try simp only [Act.put, List.getElem_toArray, List.getElem_cons_zero, List.getElem_cons_succ, List.setIfInBounds_toArray, List.set_cons_zero, List.set_cons_succ])
                refine wpAnyH_done (by kernel_rfl) ?_ _
                exact ⟨rfl, p3, by (simp only [puts, Act.put, List.setIfInBounds_toArray, List.set_cons_zero, List.set_cons_succ]), HE.out⟩
              · go_simp
                obtain ⟨p4, hp⟩ : ∃ p4, p4 = v1.heap.size := ⟨_, rfl⟩
                (try rw [← hp])
                have HLp4 : Hid ((∀ r ∈ L0, r.1 < p4) ∧ w.heap.size ≤ p4) := Lib.hid ⟨by rw [hp]; exact HF1.out.lt, by rw [hp]; exact HF1.out.2.size⟩
                have HF4 : Hid (Rws w (v1.alloc (.cells #[.int .i64 0, .int .i64 0] 24)) ((p4, 24, #[.int .i64 0, .int .i64 0]) :: L0)) := Lib.hid (HF1.out.alloc p4 hp _ _)
                clear HF1 hp
                refine kHeld hK.out (W := v1.alloc (.cells #[.int .i64 0, .int .i64 0] 24)) (Lib.hid HF4.out.tail) (fun hH2 => ?_)
                clear hK K hHeld
                have hHeld := hH2
                clear hH2
                generalize v1.alloc (.cells #[.int .i64 0, .int .i64 0] 24) = a4 at hHeld HF4 ⊢
                (try simp only [Act.put, List.getElem_toArray, List.getElem_cons_zero, List.getElem_cons_succ, List.setIfInBounds_toArray, List.set_cons_zero, List.set_cons_succ])
                refine wpAnyH_ready (rs := [3]) (by kernel_rfl) (by simp) ?_
                refine (AllReadyH.cons rfl (fun K hK => ?_) AllReadyH.nil)
                go_simp
                go_at_call 20
                refine (implNext_fix s2 sec ns h0 h1 first Y0 Hf HY0 yb0 r x b hr hx hok2 dl hn _).mono ?_
                rintro e v5 ⟨rfl, hb⟩
                have HF5 : Hid (Rws w v5 ((p4, 24, #[.int .i64 0, .int .i64 0]) :: L0)) := Lib.hid (HF4.out.below hb)
                clear hb HF4
                have HN : Hid (Rws w v5 L0) := Lib.hid HF5.out.tail
                refine hK.out _ _ HN (fun hH2 => ?_)
                clear hK K hHeld
                have hHeld := hH2
                clear hH2
                (try simp only [Act.put, List.getElem_toArray, List.getElem_cons_zero, List.getElem_cons_succ, List.setIfInBounds_toArray, List.set_cons_zero, List.set_cons_succ])
                refine wpAnyH_take (i := 4) (v := ?_) rfl (by kernel_rfl) (by kernel_rfl) (by kernel_rfl) (fun _ _ _ h => nomatch h.1) (Or.inl ⟨by rfl, ?_⟩) (by assumption) ?_
                rotate_left
                · (intro wx hSw; go_simp; (try with_reducible rfl))
                (try simp only [Act.put, List.getElem_toArray, List.getElem_cons_zero, List.getElem_cons_succ, List.setIfInBounds_toArray, List.set_cons_zero, List.set_cons_succ])
                refine wpAnyH_take (i := 5) (v := ?_) rfl (by kernel_rfl) (by kernel_rfl) (by kernel_rfl) (fun _ _ _ h => nomatch h.1) (Or.inl ⟨by rfl, ?_⟩) (by assumption) ?_
                rotate_left
                · (intro wx hSw; go_simp; (try with_reducible rfl))
                (try simp only [Act.put, List.getElem_toArray, List.getElem_cons_zero, List.getElem_cons_succ, List.setIfInBounds_toArray, List.set_cons_zero, List.set_cons_succ])
                refine wpAnyH_take (i := 6) (v := ?_) rfl (by kernel_rfl) (by kernel_rfl) (by kernel_rfl) (fun _ _ _ h => nomatch h.1) (Or.inl ⟨by rfl, ?_⟩) (by assumption) ?_
                rotate_left
                · (intro wx hSw; go_simp; (try with_reducible rfl))
                (try simp only [Act.put, List.getElem_toArray, List.getElem_cons_zero, List.getElem_cons_succ, List.setIfInBounds_toArray, List.set_cons_zero, List.set_cons_succ])
                refine wpAnyH_ready (rs := [8]) (by kernel_rfl) (by simp) ?_
                refine (AllReadyH.cons rfl (fun K hK => ?_) AllReadyH.nil)
                have c0 : v5.cell? ⟨p4, 0, none⟩ = some (.int .i64 0) := HF5.out.at0.cell 0
                have c1 : v5.cell? ⟨p4, 1, none⟩ = some (.int .i64 0) := HF5.out.at0.cell 1
                have f0 := HF5.out.at0.free 0
                have f1 := HF5.out.at0.free 1
                have HE : Hid (Rws w ((v5.setCell ⟨p4, 0, none⟩ (.int .i64 x)).setCell ⟨p4, 1, none⟩ (.int .i64 0)) ((p4, 24, #[.int .i64 x, .int .i64 0]) :: L0)) := Lib.hid (HF5.out.set2 HLp4.out.1 HLp4.out.2 _ _)
                have HN : Hid (Rws w ((v5.setCell ⟨p4, 0, none⟩ (.int .i64 x)).setCell ⟨p4, 1, none⟩ (.int .i64 0)) L0) := Lib.hid HE.out.tail
                go_simp
                refine hK.out _ _ HN (fun hH2 => ?_)
                clear hK K hHeld
                have hHeld := hH2
                clear hH2
                (try simp only [Act.put, List.getElem_toArray, List.getElem_cons_zero, List.getElem_cons_succ, List.setIfInBounds_toArray, List.set_cons_zero, List.set_cons_succ])
                refine wpAnyH_take (i := 9) (v := ?_) rfl (by kernel_rfl) (by kernel_rfl) (by kernel_rfl) (fun _ _ _ h => nomatch h.1) (Or.inl ⟨by rfl, ?_⟩) (by assumption) ?_
                rotate_left
                · (intro wx hSw; go_simp; (try with_reducible rfl))
                (try simp only [Act.put, List.getElem_toArray, List.getElem_cons_zero, List.getElem_cons_succ, List.setIfInBounds_toArray, List.set_cons_zero, List.set_cons_succ])
                refine wpAnyH_done (by kernel_rfl) ?_ _
                exact ⟨rfl, p4, by (simp only [puts, Act.put, List.setIfInBounds_toArray, List.set_cons_zero, List.set_cons_succ]), HE.out⟩
            · go_simp
              obtain ⟨p6, hp⟩ : ∃ p6, p6 = Wd.heap.size := ⟨_, rfl⟩
              (try rw [← hp])
              have HLp6 : Hid ((∀ r ∈ L0, r.1 < p6) ∧ w.heap.size ≤ p6) := Lib.hid ⟨by rw [hp]; exact HFd.out.lt, by rw [hp]; exact HFd.out.2.size⟩
              have HF6 : Hid (Rws w (Wd.alloc (.cells #[.int .i64 0, .int .i64 0] 24)) ((p6, 24, #[.int .i64 0, .int .i64 0]) :: L0)) := Lib.hid (HFd.out.alloc p6 hp _ _)
              clear HFd hp
              refine kHeld hK.out (W := Wd.alloc (.cells #[.int .i64 0, .int .i64 0] 24)) (Lib.hid HF6.out.tail) (fun hH2 => ?_)
              clear hK K hHeld
              have hHeld := hH2
              clear hH2
              generalize Wd.alloc (.cells #[.int .i64 0, .int .i64 0] 24) = a6 at hHeld HF6 ⊢
              (try simp only [Act.put, List.getElem_toArray, List.getElem_cons_zero, List.getElem_cons_succ, List.setIfInBounds_toArray, List.set_cons_zero, List.set_cons_succ])
              refine wpAnyH_ready (rs := [2]) (by kernel_rfl) (by simp) ?_
              refine (AllReadyH.cons rfl (fun K hK => ?_) AllReadyH.nil)
              go_simp
              go_at_call 19
              refine (cronUTC_any _).mono ?_
              rintro e v7 ⟨rfl, hb⟩
              have HF7 : Hid (Rws w v7 ((p6, 24, #[.int .i64 0, .int .i64 0]) :: L0)) := Lib.hid (HF6.out.below hb)
              clear hb HF6
              have HN : Hid (Rws w v7 L0) := Lib.hid HF7.out.tail
              refine hK.out _ _ HN (fun hH2 => ?_)
              clear hK K hHeld
              have hHeld := hH2
              clear hH2
              (try simp only [Act.put, List.getElem_toArray, List.getElem_cons_zero, List.getElem_cons_succ, List.setIfInBounds_toArray, List.set_cons_zero, List.set_cons_succ])
              refine wpAnyH_ready (rs := [3]) (by kernel_rfl) (by simp) ?_
              refine (AllReadyH.cons rfl (fun K hK => ?_) AllReadyH.nil)
              go_simp
              go_at_call 20
              refine (implNext_fix s2 sec ns h0 h1 first Y0 Hf HY0 yb0 r x b hr hx hok2 dl hn _).mono ?_
              rintro e v8 ⟨rfl, hb⟩
              have HF8 : Hid (Rws w v8 ((p6, 24, #[.int .i64 0, .int .i64 0]) :: L0)) := Lib.hid (HF7.out.below hb)
              clear hb HF7
              have HN : Hid (Rws w v8 L0) := Lib.hid HF8.out.tail
              refine hK.out _ _ HN (fun hH2 => ?_)
              clear hK K hHeld
              have hHeld := hH2
              clear hH2
              (try simp only [Act.put, List.getElem_toArray, List.getElem_cons_zero, List.getElem_cons_succ, List.setIfInBounds_toArray, List.set_cons_zero, List.set_cons_succ])
              refine wpAnyH_take (i := 4) (v := ?_) rfl (by kernel_rfl) (by kernel_rfl) (by kernel_rfl) (fun _ _ _ h => nomatch h.1) (Or.inl ⟨by rfl, ?_⟩) (by assumption) ?_
              rotate_left
              · (intro wx hSw; go_simp; (try with_reducible rfl))
              (try simp only [Act.put, List.getElem_toArray, List.getElem_cons_zero, List.getElem_cons_succ, List.setIfInBounds_toArray, List.set_cons_zero, List.set_cons_succ])
              refine wpAnyH_take (i := 5) (v := ?_) rfl (by kernel_rfl) (by kernel_rfl) (by kernel_rfl) (fun _ _ _ h => nomatch h.1) (Or.inl ⟨by rfl, ?_⟩) (by assumption) ?_
              rotate_left
              · (intro wx hSw; go_simp; (try with_reducible rfl))
              (try simp only [Act.put, List.getElem_toArray, List.getElem_cons_zero, List.getElem_cons_succ, List.setIfInBounds_toArray, List.set_cons_zero, List.set_cons_succ])
              refine wpAnyH_take (i := 6) (v := ?_) rfl (by kernel_rfl) (by kernel_rfl) (by kernel_rfl) (fun _ _ _ h => nomatch h.1) (Or.inl ⟨by rfl, ?_⟩) (by assumption) ?_
              rotate_left
              · (intro wx hSw; go_simp; (try with_reducible rfl))
              (try simp only [Act.put, List.getElem_toArray, List.getElem_cons_zero, List.getElem_cons_succ, List.setIfInBounds_toArray, List.set_cons_zero, List.set_cons_succ])
              refine wpAnyH_ready (rs := [8]) (by kernel_rfl) (by simp) ?_
              refine (AllReadyH.cons rfl (fun K hK => ?_) AllReadyH.nil)
              have c0 : v8.cell? ⟨p6, 0, none⟩ = some (.int .i64 0) := HF8.out.at0.cell 0
              have c1 : v8.cell? ⟨p6, 1, none⟩ = some (.int .i64 0) := HF8.out.at0.cell 1
              have f0 := HF8.out.at0.free 0
              have f1 := HF8.out.at0.free 1
              have HE : Hid (Rws w ((v8.setCell ⟨p6, 0, none⟩ (.int .i64 x)).setCell ⟨p6, 1, none⟩ (.int .i64 0)) ((p6, 24, #[.int .i64 x, .int .i64 0]) :: L0)) := Lib.hid (HF8.out.set2 HLp6.out.1 HLp6.out.2 _ _)
              have HN : Hid (Rws w ((v8.setCell ⟨p6, 0, none⟩ (.int .i64 x)).setCell ⟨p6, 1, none⟩ (.int .i64 0)) L0) := Lib.hid HE.out.tail
              go_simp
              refine hK.out _ _ HN (fun hH2 => ?_)
              clear hK K hHeld
              have hHeld := hH2
              clear hH2
              (try simp only [Act.put, List.getElem_toArray, List.getElem_cons_zero, List.getElem_cons_succ, List.setIfInBounds_toArray, List.set_cons_zero, List.set_cons_succ])
              refine wpAnyH_take (i := 9) (v := ?_) rfl (by kernel_rfl) (by kernel_rfl) (by kernel_rfl) (fun _ _ _ h => nomatch h.1) (Or.inl ⟨by rfl, ?_⟩) (by assumption) ?_
              rotate_left
              · (intro wx hSw; go_simp; (try with_reducible rfl))
              (try simp only [Act.put, List.getElem_toArray, List.getElem_cons_zero, List.getElem_cons_succ, List.setIfInBounds_toArray, List.set_cons_zero, List.set_cons_succ])
              refine wpAnyH_done (by kernel_rfl) ?_ _
              exact ⟨rfl, p6, by (simp only [puts, Act.put, List.setIfInBounds_toArray, List.set_cons_zero, List.set_cons_succ]), HE.out⟩
          case hq =>
            rintro p1 W3 hF
            rw [HL0.out] at hF
            (simp only [puts, Act.put, List.setIfInBounds_toArray, List.set_cons_zero, List.set_cons_succ])
            have HR3 := Lib.hid hF
            clear hF HL0 L0 HQ3
            go_wp2_with fail
            obtain ⟨L0, HL0⟩ : ∃ L0 : List (Nat × TypeId × Array Value), Hid (L0 = [(p1, 24, #[.int .i64 x, .int .i64 0]), (p0, 24, #[.int .i64 sec2, .int .i64 ns]), (w.heap.size + 1, 24, #[.int .i64 sec, .int .i64 ns]), (w.heap.size, 38, #[.bool false, .int .i64 dl, .int .u64 s2.se, .int .u64 s2.mi, .int .u64 s2.ho, .int .u64 s2.dom, .int .u64 s2.mo, .int .u64 s2.dow])]) := ⟨_, rfl⟩
            rw [← HL0.out] at HR3
            refine reg_framex (fun p => [(47, .agg #[.bool false, .int .i64 dl, .int .u64 s2.se, .int .u64 s2.mi, .int .u64 s2.ho, .int .u64 s2.dom, .int .u64 s2.mo, .int .u64 s2.dow]), (48, .agg #[.int .i64 sec2, .int .i64 ns]), (49, .agg #[.slice none 0 0, .slice none 0 0, .slice none 0 0, .slice none 0 0]), (50, .tuple #[.agg #[.int .i64 x2, .int .i64 0], .bool b2]), (46, .tuple #[.agg #[.int .i64 x2, .int .i64 0], .bool b2]), (51, .agg #[.int .i64 x2, .int .i64 0]), (52, .bool b2), (10, .pointer (some ⟨p, 0, none⟩)), (11, .bool b2)]) (fun p w' => Rws w w' ((p, 24, #[.int .i64 x2, .int .i64 0]) :: L0)) ?reg ?hq
            case reg =>
              have HFd : Hid (Rws w W3.drew L0) := Lib.hid HR3.out.drew
              refine wp_region_held_drew (S := fun w' => Hid (Rws w w' L0)) (by kernel_rfl) HFd (fun hHeld => ?_)
              generalize W3.drew = Wd at HFd hHeld ⊢
              (try simp only [Act.put, List.getElem_toArray, List.getElem_cons_zero, List.getElem_cons_succ, List.setIfInBounds_toArray, List.set_cons_zero, List.set_cons_succ])
              refine wpAnyH_take (i := 0) (v := ?_) rfl (by kernel_rfl) (by kernel_rfl) (by kernel_rfl) (fun _ _ _ h => nomatch h.1) (Or.inl ⟨by rfl, ?_⟩) (by assumption) ?_
              rotate_left
              · (intro wx hSw; have hSx := hSw.out; rw [HL0.out] at hSx; have k0 : wx.cell? ⟨w.heap.size, 0, none⟩ = some (.bool false) := hSx.tail.tail.tail.at0.cell 0; have k1 : wx.cell? ⟨w.heap.size, 1, none⟩ = some (.int .i64 dl) := hSx.tail.tail.tail.at0.cell 1; have k2 : wx.cell? ⟨w.heap.size, 2, none⟩ = some (.int .u64 s2.se) := hSx.tail.tail.tail.at0.cell 2; have k3 : wx.cell? ⟨w.heap.size, 3, none⟩ = some (.int .u64 s2.mi) := hSx.tail.tail.tail.at0.cell 3; have k4 : wx.cell? ⟨w.heap.size, 4, none⟩ = some (.int .u64 s2.ho) := hSx.tail.tail.tail.at0.cell 4; have k5 : wx.cell? ⟨w.heap.size, 5, none⟩ = some (.int .u64 s2.dom) := hSx.tail.tail.tail.at0.cell 5; have k6 : wx.cell? ⟨w.heap.size, 6, none⟩ = some (.int .u64 s2.mo) := hSx.tail.tail.tail.at0.cell 6; have k7 : wx.cell? ⟨w.heap.size, 7, none⟩ = some (.int .u64 s2.dow) := hSx.tail.tail.tail.at0.cell 7; go_simp; (try with_reducible rfl))
              (try simp only [Act.put, List.getElem_toArray, List.getElem_cons_zero, List.getElem_cons_succ, List.setIfInBounds_toArray, List.set_cons_zero, List.set_cons_succ])
              refine wpAnyH_take (i := 1) (v := ?_) rfl (by kernel_rfl) (by kernel_rfl) (by kernel_rfl) (fun _ _ _ h => nomatch h.1) (Or.inl ⟨by rfl, ?_⟩) (by assumption) ?_
              rotate_left
              · (intro wx hSw; have hSx := hSw.out; rw [HL0.out] at hSx; have k0 : wx.cell? ⟨p0, 0, none⟩ = some (.int .i64 sec2) := hSx.tail.at0.cell 0; have k1 : wx.cell? ⟨p0, 1, none⟩ = some (.int .i64 ns) := hSx.tail.at0.cell 1; go_simp; (try with_reducible rfl))
              (try simp only [Act.put, List.getElem_toArray, List.getElem_cons_zero, List.getElem_cons_succ, List.setIfInBounds_toArray, List.set_cons_zero, List.set_cons_succ])
              refine wpAnyH_ready (rs := [2, 7]) (by kernel_rfl) (by simp) ?_
              refine (AllReadyH.cons rfl (fun K hK => ?_) (AllReadyH.cons rfl (fun K hK => ?_) AllReadyH.nil))
              · go_simp
                go_at_call 19
                refine (cronUTC_any _).mono ?_
                rintro e v1 ⟨rfl, hb⟩
                have HF1 : Hid (Rws w v1 L0) := Lib.hid (HFd.out.below hb)
                clear hb HFd
                have HN : Hid (Rws w v1 L0) := Lib.hid HF1.out
                refine hK.out _ _ HN (fun hH2 => ?_)
                clear hK K hHeld
                have hHeld := hH2
                clear hH2
                (try simp only [Act.put, List.getElem_toArray, List.getElem_cons_zero, List.getElem_cons_succ, List.setIfInBounds_toArray, List.set_cons_zero, List.set_cons_succ])
                refine wpAnyH_ready (rs := [3, 7]) (by kernel_rfl) (by simp) ?_
                refine (AllReadyH.cons rfl (fun K hK => ?_) (AllReadyH.cons rfl (fun K hK => ?_) AllReadyH.nil))
                · go_simp
                  go_at_call 20
                  refine (implNext_fix s2 sec2 ns h02 h12 first2 Y02 Hf2 HY02 yb02 r2 x2 b2 hr2 hx2 hok2 dl hn _).mono ?_
                  rintro e v2 ⟨rfl, hb⟩
                  have HF2 : Hid (Rws w v2 L0) := Lib.hid (HF1.out.below hb)
                  clear hb HF1
                  have HN : Hid (Rws w v2 L0) := Lib.hid HF2.out
                  refine hK.out _ _ HN (fun hH2 => ?_)
                  clear hK K hHeld
                  have hHeld := hH2
                  clear hH2
                  (try simp only [Act.put, List.getElem_toArray, List.getElem_cons_zero, List.getElem_cons_succ, List.setIfInBounds_toArray, List.set_cons_zero, List.set_cons_succ])
                  refine wpAnyH_take (i := 4) (v := ?_) rfl (by kernel_rfl) (by kernel_rfl) (by kernel_rfl) (fun _ _ _ h => nomatch h.1) (Or.inl ⟨by rfl, ?_⟩) (by assumption) ?_
                  rotate_left
                  · (intro wx hSw; go_simp; (try with_reducible rfl))
                  (try simp only [Act.put, List.getElem_toArray, List.getElem_cons_zero, List.getElem_cons_succ, List.setIfInBounds_toArray, List.set_cons_zero, List.set_cons_succ])
                  refine wpAnyH_take (i := 5) (v := ?_) rfl (by kernel_rfl) (by kernel_rfl) (by kernel_rfl) (fun _ _ _ h => nomatch h.1) (Or.inl ⟨by rfl, ?_⟩) (by assumption) ?_
                  rotate_left
                  · (intro wx hSw; go_simp; (try with_reducible rfl))
                  (try simp only [Act.put, List.getElem_toArray, List.getElem_cons_zero, List.getElem_cons_succ, List.setIfInBounds_toArray, List.set_cons_zero, List.set_cons_succ])
                  refine wpAnyH_take (i := 6) (v := ?_) rfl (by kernel_rfl) (by kernel_rfl) (by kernel_rfl) (fun _ _ _ h => nomatch h.1) (Or.inl ⟨by rfl, ?_⟩) (by assumption) ?_
                  rotate_left
                  · (intro wx hSw; go_simp; (try with_reducible rfl))
                  (try simp only [Act.put, List.getElem_toArray, List.getElem_cons_zero, List.getElem_cons_succ, List.setIfInBounds_toArray, List.set_cons_zero, List.set_cons_succ])
                  refine wpAnyH_ready (rs := [7]) (by kernel_rfl) (by simp) ?_
                  refine (AllReadyH.cons rfl (fun K hK => ?_) AllReadyH.nil)
                  go_simp
                  obtain ⟨p3, hp⟩ : ∃ p3, p3 = v2.heap.size := ⟨_, rfl⟩
                  (try rw [← hp])
                  have HLp3 : Hid ((∀ r ∈ L0, r.1 < p3) ∧ w.heap.size ≤ p3) := Lib.hid ⟨by rw [hp]; exact HF2.out.lt, by rw [hp]; exact HF2.out.2.size⟩
                  have HF3 : Hid (Rws w (v2.alloc (.cells #[.int .i64 0, .int .i64 0] 24)) ((p3, 24, #[.int .i64 0, .int .i64 0]) :: L0)) := Lib.hid (HF2.out.alloc p3 hp _ _)
                  clear HF2 hp
                  refine kHeld hK.out (W := v2.alloc (.cells #[.int .i64 0, .int .i64 0] 24)) (Lib.hid HF3.out.tail) (fun hH2 => ?_)
                  clear hK K hHeld
                  have hHeld := hH2
                  clear hH2
                  generalize v2.alloc (.cells #[.int .i64 0, .int .i64 0] 24) = a3 at hHeld HF3 ⊢
                  (try simp only [Act.put, List.getElem_toArray, List.getElem_cons_zero, List.getElem_cons_succ, List.setIfInBounds_toArray, List.set_cons_zero, List.set_cons_succ])
                  refine wpAnyH_ready (rs := [8]) (by kernel_rfl) (by simp) ?_
                  refine (AllReadyH.cons rfl (fun K hK => ?_) AllReadyH.nil)
                  have c0 : a3.cell? ⟨p3, 0, none⟩ = some (.int .i64 0) := HF3.out.at0.cell 0
                  have c1 : a3.cell? ⟨p3, 1, none⟩ = some (.int .i64 0) := HF3.out.at0.cell 1
                  have f0 := HF3.out.at0.free 0
                  have f1 := HF3.out.at0.free 1
                  have HE : Hid (Rws w ((a3.setCell ⟨p3, 0, none⟩ (.int .i64 x2)).setCell ⟨p3, 1, none⟩ (.int .i64 0)) ((p3, 24, #[.int .i64 x2, .int .i64 0]) :: L0)) := Lib.hid (HF3.out.set2 HLp3.out.1 HLp3.out.2 _ _)
                  have HN : Hid (Rws w ((a3.setCell ⟨p3, 0, none⟩ (.int .i64 x2)).setCell ⟨p3, 1, none⟩ (.int .i64 0)) L0) := Lib.hid HE.out.tail
                  go_simp
                  refine hK.out _ _ HN (fun hH2 => ?_)
                  clear hK K hHeld
                  have hHeld := hH2
                  clear hH2
                  (try simp only [Act.put, List.getElem_toArray, List.getElem_cons_zero, List.getElem_cons_succ, List.setIfInBounds_toArray, List.set_cons_zero, List.set_cons_succ])
                  refine wpAnyH_take (i := 9) (v := ?_) rfl (by kernel_rfl) (by kernel_rfl) (by kernel_rfl) (fun _ _ _ h => nomatch h.1) (Or.inl ⟨by rfl, ?_⟩) (by assumption) ?_
                  rotate_left
                  · (intro wx hSw; go_simp; (try with_reducible rfl))
                  (try simp only [Act.put, List.getElem_toArray, List.getElem_cons_zero, List.getElem_cons_succ, List.setIfInBounds_toArray, List.set_cons_zero, List.set_cons_succ])
                  refine wpAnyH_done (by kernel_rfl) ?_ _
                  exact ⟨rfl, p3, by (simp only [puts, Act.put, List.setIfInBounds_toArray, List.set_cons_zero, List.set_cons_succ]), HE.out⟩
                · go_simp
                  obtain ⟨p4, hp⟩ : ∃ p4, p4 = v1.heap.size := ⟨_, rfl⟩
                  (try rw [← hp])
                  have HLp4 : Hid ((∀ r ∈ L0, r.1 < p4) ∧ w.heap.size ≤ p4) := Lib.hid ⟨by rw [hp]; exact HF1.out.lt, by rw [hp]; exact HF1.out.2.size⟩
                  have HF4 : Hid (Rws w (v1.alloc (.cells #[.int .i64 0, .int .i64 0] 24)) ((p4, 24, #[.int .i64 0, .int .i64 0]) :: L0)) := Lib.hid (HF1.out.alloc p4 hp _ _)
                  clear HF1 hp
                  refine kHeld hK.out (W := v1.alloc (.cells #[.int .i64 0, .int .i64 0] 24)) (Lib.hid HF4.out.tail) (fun hH2 => ?_)
                  clear hK K hHeld
                  have hHeld := hH2
                  clear hH2
                  generalize v1.alloc (.cells #[.int .i64 0, .int .i64 0] 24) = a4 at hHeld HF4 ⊢
                  (try simp only [Act.put, List.getElem_toArray, List.getElem_cons_zero, List.getElem_cons_succ, List.setIfInBounds_toArray, List.set_cons_zero, List.set_cons_succ])
                  refine wpAnyH_ready (rs := [3]) (by kernel_rfl) (by simp) ?_
                  refine (AllReadyH.cons rfl (fun K hK => ?_) AllReadyH.nil)
                  go_simp
                  go_at_call 20
                  refine (implNext_fix s2 sec2 ns h02 h12 first2 Y02 Hf2 HY02 yb02 r2 x2 b2 hr2 hx2 hok2 dl hn _).mono ?_
                  rintro e v5 ⟨rfl, hb⟩
                  have HF5 : Hid (Rws w v5 ((p4, 24, #[.int .i64 0, .int .i64 0]) :: L0)) := Lib.hid (HF4.out.below hb)
                  clear hb HF4
                  have HN : Hid (Rws w v5 L0) := Lib.hid HF5.out.tail
                  refine hK.out _ _ HN (fun hH2 => ?_)
                  clear hK K hHeld
                  have hHeld := hH2
                  clear hH2
                  (try simp only [Act.put, List.getElem_toArray, List.getElem_cons_zero, List.getElem_cons_succ, List.setIfInBounds_toArray, List.set_cons_zero, List.set_cons_succ])
                  refine wpAnyH_take (i := 4) (v := ?_) rfl (by kernel_rfl) (by kernel_rfl) (by kernel_rfl) (fun _ _ _ h => nomatch h.1) (Or.inl ⟨by rfl, ?_⟩) (by assumption) ?_
                  rotate_left
                  · (intro wx hSw; go_simp; (try with_reducible rfl))
                  (try simp only [Act.put, List.getElem_toArray, List.getElem_cons_zero, List.getElem_cons_succ, List.setIfInBounds_toArray, List.set_cons_zero, List.set_cons_succ])
                  refine wpAnyH_take (i := 5) (v := ?_) rfl (by kernel_rfl) (by kernel_rfl) (by kernel_rfl) (fun _ _ _ h => nomatch h.1) (Or.inl ⟨by rfl, ?_⟩) (by assumption) ?_
                  rotate_left
                  · (intro wx hSw; go_simp; (try with_reducible rfl))
                  (try simp only [Act.put, List.getElem_toArray, List.getElem_cons_zero, List.getElem_cons_succ, List.setIfInBounds_toArray, List.set_cons_zero, List.set_cons_succ])
                  refine wpAnyH_take (i := 6) (v := ?_) rfl (by kernel_rfl) (by kernel_rfl) (by kernel_rfl) (fun _ _ _ h => nomatch h.1) (Or.inl ⟨by rfl, ?_⟩) (by assumption) ?_
                  rotate_left
                  · (intro wx hSw; go_simp; (try with_reducible rfl))
                  (try simp only [Act.put, List.getElem_toArray, List.getElem_cons_zero, List.getElem_cons_succ, List.setIfInBounds_toArray, List.set_cons_zero, List.set_cons_succ])
                  refine wpAnyH_ready (rs := [8]) (by kernel_rfl) (by simp) ?_
                  refine (AllReadyH.cons rfl (fun K hK => ?_) AllReadyH.nil)
                  have c0 : v5.cell? ⟨p4, 0, none⟩ = some (.int .i64 0) := HF5.out.at0.cell 0
                  have c1 : v5.cell? ⟨p4, 1, none⟩ = some (.int .i64 0) := HF5.out.at0.cell 1
                  have f0 := HF5.out.at0.free 0
                  have f1 := HF5.out.at0.free 1
                  have HE : Hid (Rws w ((v5.setCell ⟨p4, 0, none⟩ (.int .i64 x2)).setCell ⟨p4, 1, none⟩ (.int .i64 0)) ((p4, 24, #[.int .i64 x2, .int .i64 0]) :: L0)) := Lib.hid (HF5.out.set2 HLp4.out.1 HLp4.out.2 _ _)
                  have HN : Hid (Rws w ((v5.setCell ⟨p4, 0, none⟩ (.int .i64 x2)).setCell ⟨p4, 1, none⟩ (.int .i64 0)) L0) := Lib.hid HE.out.tail
                  go_simp
                  refine hK.out _ _ HN (fun hH2 => ?_)
                  clear hK K hHeld
                  have hHeld := hH2
                  clear hH2
                  (try simp only [Act.put, List.getElem_toArray, List.getElem_cons_zero, List.getElem_cons_succ, List.setIfInBounds_toArray, List.set_cons_zero, List.set_cons_succ])
                  refine wpAnyH_take (i := 9) (v := ?_) rfl (by kernel_rfl) (by kernel_rfl) (by kernel_rfl) (fun _ _ _ h => nomatch h.1) (Or.inl ⟨by rfl, ?_⟩) (by assumption) ?_
                  rotate_left
                  · (intro wx hSw; go_simp; (try with_reducible rfl))
                  (try simp only [Act.put, List.getElem_toArray, List.getElem_cons_zero, List.getElem_cons_succ, List.setIfInBounds_toArray, List.set_cons_zero, List.set_cons_succ])
                  refine wpAnyH_done (by kernel_rfl) ?_ _
                  exact ⟨rfl, p4, by (simp only [puts, Act.put, List.setIfInBounds_toArray, List.set_cons_zero, List.set_cons_succ]), HE.out⟩
              · go_simp
                obtain ⟨p6, hp⟩ : ∃ p6, p6 = Wd.heap.size := ⟨_, rfl⟩
                (try rw [← hp])
                have HLp6 : Hid ((∀ r ∈ L0, r.1 < p6) ∧ w.heap.size ≤ p6) := Lib.hid ⟨by rw [hp]; exact HFd.out.lt, by rw [hp]; exact HFd.out.2.size⟩
                have HF6 : Hid (Rws w (Wd.alloc (.cells #[.int .i64 0, .int .i64 0] 24)) ((p6, 24, #[.int .i64 0, .int .i64 0]) :: L0)) := Lib.hid (HFd.out.alloc p6 hp _ _)
                clear HFd hp
                refine kHeld hK.out (W := Wd.alloc (.cells #[.int .i64 0, .int .i64 0] 24)) (Lib.hid HF6.out.tail) (fun hH2 => ?_)
                clear hK K hHeld
                have hHeld := hH2
                clear hH2
                generalize Wd.alloc (.cells #[.int .i64 0, .int .i64 0] 24) = a6 at hHeld HF6 ⊢
                (try simp only [Act.put, List.getElem_toArray, List.getElem_cons_zero, List.getElem_cons_succ, List.setIfInBounds_toArray, List.set_cons_zero, List.set_cons_succ])
                refine wpAnyH_ready (rs := [2]) (by kernel_rfl) (by simp) ?_
                refine (AllReadyH.cons rfl (fun K hK => ?_) AllReadyH.nil)
                go_simp
                go_at_call 19
                refine (cronUTC_any _).mono ?_
                rintro e v7 ⟨rfl, hb⟩
                have HF7 : Hid (Rws w v7 ((p6, 24, #[.int .i64 0, .int .i64 0]) :: L0)) := Lib.hid (HF6.out.below hb)
                clear hb HF6
                have HN : Hid (Rws w v7 L0) := Lib.hid HF7.out.tail
                refine hK.out _ _ HN (fun hH2 => ?_)
                clear hK K hHeld
                have hHeld := hH2
                clear hH2
                (try simp only [Act.put, List.getElem_toArray, List.getElem_cons_zero, List.getElem_cons_succ, List.setIfInBounds_toArray, List.set_cons_zero, List.set_cons_succ])
                refine wpAnyH_ready (rs := [3]) (by kernel_rfl) (by simp) ?_
                refine (AllReadyH.cons rfl (fun K hK => ?_) AllReadyH.nil)
                go_simp
                go_at_call 20
                refine (implNext_fix s2 sec2 ns h02 h12 first2 Y02 Hf2 HY02 yb02 r2 x2 b2 hr2 hx2 hok2 dl hn _).mono ?_
                rintro e v8 ⟨rfl, hb⟩
                have HF8 : Hid (Rws w v8 ((p6, 24, #[.int .i64 0, .int .i64 0]) :: L0)) := Lib.hid (HF7.out.below hb)
                clear hb HF7
                have HN : Hid (Rws w v8 L0) := Lib.hid HF8.out.tail
                refine hK.out _ _ HN (fun hH2 => ?_)
                clear hK K hHeld
                have hHeld := hH2
                clear hH2
                (try simp only [Act.put, List.getElem_toArray, List.getElem_cons_zero, List.getElem_cons_succ, List.setIfInBounds_toArray, List.set_cons_zero, List.set_cons_succ])
                refine wpAnyH_take (i := 4) (v := ?_) rfl (by kernel_rfl) (by kernel_rfl) (by kernel_rfl) (fun _ _ _ h => nomatch h.1) (Or.inl ⟨by rfl, ?_⟩) (by assumption) ?_
                rotate_left
                · (intro wx hSw; go_simp; (try with_reducible rfl))
                (try simp only [Act.put, List.getElem_toArray, List.getElem_cons_zero, List.getElem_cons_succ, List.setIfInBounds_toArray, List.set_cons_zero, List.set_cons_succ])
                refine wpAnyH_take (i := 5) (v := ?_) rfl (by kernel_rfl) (by kernel_rfl) (by kernel_rfl) (fun _ _ _ h => nomatch h.1) (Or.inl ⟨by rfl, ?_⟩) (by assumption) ?_
                rotate_left
                · (intro wx hSw; go_simp; (try with_reducible rfl))
                (try simp only [Act.put, List.getElem_toArray, List.getElem_cons_zero, List.getElem_cons_succ, List.setIfInBounds_toArray, List.set_cons_zero, List.set_cons_succ])
                refine wpAnyH_take (i := 6) (v := ?_) rfl (by kernel_rfl) (by kernel_rfl) (by kernel_rfl) (fun _ _ _ h => nomatch h.1) (Or.inl ⟨by rfl, ?_⟩) (by assumption) ?_
                rotate_left
                · (intro wx hSw; go_simp; (try with_reducible rfl))
                (try simp only [Act.put, List.getElem_toArray, List.getElem_cons_zero, List.getElem_cons_succ, List.setIfInBounds_toArray, List.set_cons_zero, List.set_cons_succ])
                refine wpAnyH_ready (rs := [8]) (by kernel_rfl) (by simp) ?_
                refine (AllReadyH.cons rfl (fun K hK => ?_) AllReadyH.nil)
                have c0 : v8.cell? ⟨p6, 0, none⟩ = some (.int .i64 0) := HF8.out.at0.cell 0
                have c1 : v8.cell? ⟨p6, 1, none⟩ = some (.int .i64 0) := HF8.out.at0.cell 1
                have f0 := HF8.out.at0.free 0
                have f1 := HF8.out.at0.free 1
                have HE : Hid (Rws w ((v8.setCell ⟨p6, 0, none⟩ (.int .i64 x2)).setCell ⟨p6, 1, none⟩ (.int .i64 0)) ((p6, 24, #[.int .i64 x2, .int .i64 0]) :: L0)) := Lib.hid (HF8.out.set2 HLp6.out.1 HLp6.out.2 _ _)
                have HN : Hid (Rws w ((v8.setCell ⟨p6, 0, none⟩ (.int .i64 x2)).setCell ⟨p6, 1, none⟩ (.int .i64 0)) L0) := Lib.hid HE.out.tail
                go_simp
                refine hK.out _ _ HN (fun hH2 => ?_)
                clear hK K hHeld
                have hHeld := hH2
                clear hH2
                (try simp only [Act.put, List.getElem_toArray, List.getElem_cons_zero, List.getElem_cons_succ, List.setIfInBounds_toArray, List.set_cons_zero, List.set_cons_succ])
                refine wpAnyH_take (i := 9) (v := ?_) rfl (by kernel_rfl) (by kernel_rfl) (by kernel_rfl) (fun _ _ _ h => nomatch h.1) (Or.inl ⟨by rfl, ?_⟩) (by assumption) ?_
                rotate_left
                · (intro wx hSw; go_simp; (try with_reducible rfl))
                (try simp only [Act.put, List.getElem_toArray, List.getElem_cons_zero, List.getElem_cons_succ, List.setIfInBounds_toArray, List.set_cons_zero, List.set_cons_succ])
                refine wpAnyH_done (by kernel_rfl) ?_ _
                exact ⟨rfl, p6, by (simp only [puts, Act.put, List.setIfInBounds_toArray, List.set_cons_zero, List.set_cons_succ]), HE.out⟩
            case hq =>
              rintro p2 W4 hF
              rw [HL0.out] at hF
              (simp only [puts, Act.put, List.setIfInBounds_toArray, List.set_cons_zero, List.set_cons_succ])
              have HQ4 := Lib.hid hF
              clear hF HL0 L0 HR3
              obtain ⟨nv, hnv⟩ : ∃ nv, neverB s2 = nv := ⟨_, rfl⟩
              have hk := Hk.out
              cases nv with
              | true =>
                obtain ⟨rfl, rfl⟩ := Hd.out.1 hnv
                have u0 : W4.cell? ⟨p1, 0, none⟩ = some (.int .i64 x) := HQ4.out.tail.at0.cell 0
                have u1 : W4.cell? ⟨p1, 1, none⟩ = some (.int .i64 0) := HQ4.out.tail.at0.cell 1
                have t0 : W4.cell? ⟨p2, 0, none⟩ = some (.int .i64 x2) := HQ4.out.at0.cell 0
                have t1 : W4.cell? ⟨p2, 1, none⟩ = some (.int .i64 0) := HQ4.out.at0.cell 1
                go_wp2_with fail
                refine (moved_no x x2 k _).mono ?_
                rintro e w5 ⟨rfl, hb⟩
                have HQ5 := Lib.hid (HQ4.out.below hb)
                clear hb HQ4 u0 u1 t0 t1
                have q0 : w5.cell? ⟨w.heap.size, 0, none⟩ = some (.bool false) := HQ5.out.tail.tail.tail.tail.at0.cell 0
                have q1 : w5.cell? ⟨w.heap.size, 1, none⟩ = some (.int .i64 dl) := HQ5.out.tail.tail.tail.tail.at0.cell 1
                have q2 : w5.cell? ⟨w.heap.size, 2, none⟩ = some (.int .u64 s2.se) := HQ5.out.tail.tail.tail.tail.at0.cell 2
                have q3 : w5.cell? ⟨w.heap.size, 3, none⟩ = some (.int .u64 s2.mi) := HQ5.out.tail.tail.tail.tail.at0.cell 3
                have q4 : w5.cell? ⟨w.heap.size, 4, none⟩ = some (.int .u64 s2.ho) := HQ5.out.tail.tail.tail.tail.at0.cell 4
                have q5 : w5.cell? ⟨w.heap.size, 5, none⟩ = some (.int .u64 s2.dom) := HQ5.out.tail.tail.tail.tail.at0.cell 5
                have q6 : w5.cell? ⟨w.heap.size, 6, none⟩ = some (.int .u64 s2.mo) := HQ5.out.tail.tail.tail.tail.at0.cell 6
                have q7 : w5.cell? ⟨w.heap.size, 7, none⟩ = some (.int .u64 s2.dow) := HQ5.out.tail.tail.tail.tail.at0.cell 7
                go_wp2_with fail
                refine (fieldsOf_A s2 hok2.out A hA dl _).mono ?_
                rintro e w6 ⟨rfl, hb⟩
                have HQ6 := Lib.hid (HQ5.out.below hb)
                clear hb HQ5 q0 q1 q2 q3 q4 q5 q6 q7
                go_wp2_with fail
                refine (never_any A s2 hA _).mono ?_
                rintro e w7 ⟨rfl, hb⟩
                rw [hnv]
                have HQ7 := Lib.hid (HQ6.out.below hb)
                clear hb HQ6
                go_wp2_with fail
                go_ret
                exact ⟨rfl, HQ7.out.2⟩
              | false =>
                obtain ⟨rfl, rfl, hmv0, hx0, hx1⟩ := Hd.out.2 hnv
                have hmv := Lib.hid hmv0
                clear hmv0
                have u0 : W4.cell? ⟨p1, 0, none⟩ = some (.int .i64 x) := HQ4.out.tail.at0.cell 0
                have u1 : W4.cell? ⟨p1, 1, none⟩ = some (.int .i64 0) := HQ4.out.tail.at0.cell 1
                have t0 : W4.cell? ⟨p2, 0, none⟩ = some (.int .i64 x2) := HQ4.out.at0.cell 0
                have t1 : W4.cell? ⟨p2, 1, none⟩ = some (.int .i64 0) := HQ4.out.at0.cell 1
                go_wp2_with fail
                refine (moved_yes x x2 k hmv hk0 hk1 hx0 hx1 _).mono ?_
                rintro e w5 ⟨rfl, hb⟩
                have HQ5 := Lib.hid (HQ4.out.below hb)
                clear hb HQ4 u0 u1 t0 t1
                have q0 : w5.cell? ⟨w.heap.size, 0, none⟩ = some (.bool false) := HQ5.out.tail.tail.tail.tail.at0.cell 0
                have q1 : w5.cell? ⟨w.heap.size, 1, none⟩ = some (.int .i64 dl) := HQ5.out.tail.tail.tail.tail.at0.cell 1
                have q2 : w5.cell? ⟨w.heap.size, 2, none⟩ = some (.int .u64 s2.se) := HQ5.out.tail.tail.tail.tail.at0.cell 2
                have q3 : w5.cell? ⟨w.heap.size, 3, none⟩ = some (.int .u64 s2.mi) := HQ5.out.tail.tail.tail.tail.at0.cell 3
                have q4 : w5.cell? ⟨w.heap.size, 4, none⟩ = some (.int .u64 s2.ho) := HQ5.out.tail.tail.tail.tail.at0.cell 4
                have q5 : w5.cell? ⟨w.heap.size, 5, none⟩ = some (.int .u64 s2.dom) := HQ5.out.tail.tail.tail.tail.at0.cell 5
                have q6 : w5.cell? ⟨w.heap.size, 6, none⟩ = some (.int .u64 s2.mo) := HQ5.out.tail.tail.tail.tail.at0.cell 6
                have q7 : w5.cell? ⟨w.heap.size, 7, none⟩ = some (.int .u64 s2.dow) := HQ5.out.tail.tail.tail.tail.at0.cell 7
                go_wp2_with fail
                refine (fieldsOf_A s2 hok2.out A hA dl _).mono ?_
                rintro e w6 ⟨rfl, hb⟩
                have HQ6 := Lib.hid (HQ5.out.below hb)
                clear hb HQ5 q0 q1 q2 q3 q4 q5 q6 q7
                go_wp2_with fail
                refine (never_any A s2 hA _).mono ?_
                rintro e w7 ⟨rfl, hb⟩
                rw [hnv]
                have HQ7 := Lib.hid (HQ6.out.below hb)
                clear hb HQ6
                go_wp2_with fail
                go_ret
                exact ⟨rfl, HQ7.out.2⟩
  | false =>
    obtain ⟨sec2, hs2⟩ : ∃ sec2, wrap64 (sec + wrap64 (86400 * days)) = sec2 := ⟨_, rfl⟩
    go_enter Try.func8, Try.ntmps8
    go_wp2_with fail
    refine (each_all s s2 h2 ev dl _).mono ?_
    rintro e w1 ⟨rfl, hb⟩
    have HR1 := Lib.hid ((((rws0 w).alloc _ rfl #[.bool ev, .int .i64 dl, .int .u64 s.se, .int .u64 s.mi, .int .u64 s.ho, .int .u64 s.dom, .int .u64 s.mo, .int .u64 s.dow] 38).alloc (w.heap.size + 1) (by simp) #[.int .i64 sec, .int .i64 ns] 24).below hb)
    clear hb
    have HS := Lib.hid (HR1.out.swap.put8 (by intro r hr; simp at hr; subst hr; simp) (Nat.le_refl _) (.bool ev) (.int .i64 dl) (.int .u64 s2.se) (.int .u64 s2.mi) (.int .u64 s2.ho) (.int .u64 s2.dom) (.int .u64 s2.mo) (.int .u64 s2.dow)).swap
    have hT : w1.there w.heap.size 0 8 := HR1.out.at1.thereAll
    go_wp2_with (first | (refine wpList_store_mid rfl 38 (.tmp 3) (.tmp 13) rfl w.heap.size 0 #[.bool ev, .int .i64 dl, .int .u64 s2.se, .int .u64 s2.mi, .int .u64 s2.ho, .int .u64 s2.dom, .int .u64 s2.mo, .int .u64 s2.dow] (by simp [Act.eval]) (by simp [Act.eval]) hT infoSch (sch_one _ _ _ _ _ _ _ _) (stop_here ?_)))
    clear hT HR1
    generalize w1.setCells w.heap.size 0 _ = W1 at HS ⊢
    have t0 : W1.cell? ⟨w.heap.size + 1, 0, none⟩ = some (.int .i64 sec) := HS.out.at0.cell 0
    have t1 : W1.cell? ⟨w.heap.size + 1, 1, none⟩ = some (.int .i64 ns) := HS.out.at0.cell 1
    have q0 : W1.cell? ⟨w.heap.size, 0, none⟩ = some (.bool ev) := HS.out.at1.cell 0
    have q1 : W1.cell? ⟨w.heap.size, 1, none⟩ = some (.int .i64 dl) := HS.out.at1.cell 1
    have q2 : W1.cell? ⟨w.heap.size, 2, none⟩ = some (.int .u64 s2.se) := HS.out.at1.cell 2
    have q3 : W1.cell? ⟨w.heap.size, 3, none⟩ = some (.int .u64 s2.mi) := HS.out.at1.cell 3
    have q4 : W1.cell? ⟨w.heap.size, 4, none⟩ = some (.int .u64 s2.ho) := HS.out.at1.cell 4
    have q5 : W1.cell? ⟨w.heap.size, 5, none⟩ = some (.int .u64 s2.dom) := HS.out.at1.cell 5
    have q6 : W1.cell? ⟨w.heap.size, 6, none⟩ = some (.int .u64 s2.mo) := HS.out.at1.cell 6
    have q7 : W1.cell? ⟨w.heap.size, 7, none⟩ = some (.int .u64 s2.dow) := HS.out.at1.cell 7
    have hl0 : w.heap.size < W1.heap.size := HS.out.at1.lt
    have hl1 : w.heap.size + 1 < W1.heap.size := HS.out.at0.lt
    have hl2 : ¬ (w.heap.size = W1.heap.size) := by omega
    have hl3 : ¬ (w.heap.size + 1 = W1.heap.size) := by omega
    unfold Stop
    go_wp2_with fail
    rw [hs2]
    have HB := Lib.hid (HS.out.alloc W1.heap.size rfl #[.int .i64 sec2, .int .i64 ns] 24)
    clear HS t0 t1 hl0 hl1 hl2 hl3 q0 q1 q2 q3 q4 q5 q6 q7
    generalize W1.heap.size = p0 at HB ⊢
    refine (case_any s2 ev dl sec ns _).mono ?_
    rintro e w2 ⟨rfl, hb⟩
    rw [Hg1.out]
    have HQ := Lib.hid (HB.out.below hb)
    clear hb HB
    go_wp2_with fail
    go_ret
    exact ⟨rfl, HQ.out.2⟩

end Go.Proofs.Ytpgclepiagfgfaa
