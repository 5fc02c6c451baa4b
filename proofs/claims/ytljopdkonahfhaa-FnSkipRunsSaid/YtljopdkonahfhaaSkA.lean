/- SkipIfStillRunning over one goroutine: rows of memory, the steps of its channel, a busy and an idle call. -/
import Derived.Test.YtljopdkonahfhaaWk
import Derived.Conc.LoneCalls
import Derived.Conc.LoneSelect
namespace Go.Proofs.Ytljopdkonahfhaa
open Go.RowKit Go.Conc
set_option linter.unusedVariables false
set_option linter.unusedSimpArgs false

/-! ### Pieces of code and calls inside a walk of the lone machine -/
theorem LoneTo.code {P : Program} {Q : Goroutine → World → Prop} {c : Code} {Qc : Exit → Act → World → Prop} {b : Frame} {a : Act} {k : List Item} {cs : List Frame} {w : World}
    (h : c.wp P Qc a w) (hq : ∀ e a' w', Qc e a' w' → e = .normal ∧ LoneTo P Q (G (b.at a' k) cs) w') : LoneTo P Q (G (b.at a (.code c :: k)) cs) w := by
  obtain ⟨e, a', w', q, harr⟩ := h b k cs
  obtain ⟨rfl, g', w2, hs, hq2⟩ := hq e a' w' q
  exact ⟨g', w2, Steps.trans harr hs, hq2⟩

theorem LoneTo.call {P : Program} {Q : Goroutine → World → Prop} {b : Frame} {a : Act} {k : List Item} {cs : List Frame} {w w' : World} {ops : Array Oper} {i : Nat} {rest : List Nat} {o : Oper} {f : FuncId} {args : Array Value} {R : Ending → World → Prop}
    (ho : ops[i]? = some o) (hw : Region.wanted o (yielded ops a.tmps) = true) (hx : (execOp a.eval o).run P w = .ok (.enter f args) w') (hc : Calls P f args w' R)
    (hret : ∀ e w2, R e w2 → ∃ v, e = .returned v ∧ LoneTo P Q (G (b.at (a.put o.dst v) (.inRegion ops rest :: k)) cs) w2) :
    LoneTo P Q (G (b.at a (.inRegion ops (i :: rest) :: k)) cs) w := by
  obtain ⟨e, w2, fr, hR, hsteps, _, hleave⟩ := hc (b.at a (.inRegion ops (i :: rest) :: k) :: cs)
  obtain ⟨v, rfl, g', w3, hs, hq⟩ := hret e w2 hR
  have hg := stepG_op (P := P) (b := b) (k := k) (cs := cs) (w := w) (rest := rest) ho hw
  have henter : step P (lone (b.at a (.inRegion ops (i :: rest) :: k)) cs w) =
      .next (lone (Frame.enter P f args .normal) (b.at a (.inRegion ops (i :: rest) :: k) :: cs) w') :=
    step_lone_go (by rw [hg]; simp [stepG.apply, hx, Frame.at])
  have hfin : (b.at a (.inRegion ops (i :: rest) :: k)).finish v = b.at (a.put o.dst v) (.inRegion ops rest :: k) := by
    rw [Frame.finish_at, ho]; rfl
  have hl := step_leave_returned (c := b.at a (.inRegion ops (i :: rest) :: k)) (cs := cs) hleave
  rw [hfin] at hl
  exact ⟨g', w3, Steps.head henter (Steps.trans hsteps (Steps.head hl hs)), hq⟩

/-! ### Rows -/
def RowAt (w : World) (g : Nat) (t : TypeId) (cs : Array Value) : Prop := w.heap[g]? = some (.cells cs t (0, 0))
theorem RowAt.lt {w : World} {g : Nat} {t : TypeId} {cs : Array Value} (h : RowAt w g t cs) : g < w.heap.size := (Array.getElem?_eq_some_iff.1 h).1
theorem RowAt.cell {w : World} {g : Nat} {t : TypeId} {cs : Array Value} (h : RowAt w g t cs) (i : Nat) : w.cell? ⟨g, i, none⟩ = cs[i]? := cell_of_row w g i cs _ (0, 0) h
theorem RowAt.free {w : World} {g : Nat} {t : TypeId} {cs : Array Value} (h : RowAt w g t cs) (i : Nat) : w.frozen? ⟨g, i, none⟩ = false := by simp [World.frozen?, show w.heap[g]? = _ from h]
theorem RowAt.below {w w' : World} {g : Nat} {t : TypeId} {cs : Array Value} (h : RowAt w g t cs) (hb : Below w.heap.size w w') : RowAt w' g t cs := (hb.block g h.lt).trans h
theorem RowAt.setCell {w : World} {g : Nat} {t : TypeId} {cs : Array Value} (h : RowAt w g t cs) (i : Nat) (v : Value) : RowAt (w.setCell ⟨g, i, none⟩ v) g t (cs.setIfInBounds i v) := heap_setCell_same _ g i _ _ _ h
theorem RowAt.setOther {w : World} {g : Nat} {t : TypeId} {cs : Array Value} (h : RowAt w g t cs) (b i : Nat) (v : Value) (hne : g ≠ b) : RowAt (w.setCell ⟨b, i, none⟩ v) g t cs := by
  unfold RowAt
  rw [Below.heap_setCell _ _ _ _ hne]
  exact h
theorem heap_setChanOther (w : World) (c g cap : Nat) (buf : Array Value) (cl : Bool) (s r : Nat) (tm : Bool) (h : c ≠ g) : (w.setChan c cap buf cl s r tm).heap[g]? = w.heap[g]? := by
  simp [World.setChan, Array.getElem?_setIfInBounds_ne h]

abbrev ptr (n : Nat) : Value := .pointer (some ⟨n, 0, none⟩)
/-- The wrapped job; the job; the logger. -/
abbrev wrapV (n : Nat) : Value := .func (.func 15) #[] #[ptr (n + 6), ptr (n + 4), ptr (n + 3)]
abbrev jobV (n : Nat) : Value := .func (.func 11) #[] #[ptr n, ptr (n + 1), ptr (n + 2)]
abbrev TF : TypeId := 36
abbrev TD : TypeId := 35
structure Sk (w W : World) (n : Nat) (runs more : Int) (buf : Array Value) : Prop where
  runsAt : RowAt W n 3 #[.int .i64 runs]
  moreAt : RowAt W (n + 1) 3 #[.int .i64 more]
  wrAt : RowAt W (n + 2) 30 #[.iface TF (wrapV n)]
  logAt : RowAt W (n + 3) 43 #[.iface TD (.agg #[])]
  jobAt : RowAt W (n + 4) 30 #[.iface TF (jobV n)]
  chAt : RowAt W (n + 6) 44 #[.chan (some (n + 5))]
  chan : ∃ s r, W.heap[n + 5]? = some (.chan 1 buf false s r false)
  bel : Below n w W

theorem Sk.below {w W W' : World} {n : Nat} {runs more : Int} {buf : Array Value} (h : Sk w W n runs more buf) (hb : Below W.heap.size W W') : Sk w W' n runs more buf := by
  obtain ⟨s, r, hc⟩ := h.chan
  have hlt : n + 5 < W.heap.size := (Array.getElem?_eq_some_iff.1 hc).1
  have := h.runsAt.lt
  exact ⟨h.runsAt.below hb, h.moreAt.below hb, h.wrAt.below hb, h.logAt.below hb, h.jobAt.below hb, h.chAt.below hb, ⟨s, r, (hb.block _ hlt).trans hc⟩, h.bel.trans (hb.mono (by omega))⟩
theorem Sk.setRuns {w W : World} {n : Nat} {runs more : Int} {buf : Array Value} (h : Sk w W n runs more buf) (x : Int) : Sk w (W.setCell ⟨n, 0, none⟩ (.int .i64 x)) n x more buf := by
  obtain ⟨s, r, hc⟩ := h.chan
  refine ⟨h.runsAt.setCell 0 _, h.moreAt.setOther _ _ _ (by omega), h.wrAt.setOther _ _ _ (by omega), h.logAt.setOther _ _ _ (by omega), h.jobAt.setOther _ _ _ (by omega), h.chAt.setOther _ _ _ (by omega), ⟨s, r, ?_⟩, h.bel.setCell (p := ⟨n, 0, none⟩) (Nat.le_refl _) _⟩
  rw [Below.heap_setCell _ _ _ _ (by omega : n + 5 ≠ n)]; exact hc
theorem Sk.setMore {w W : World} {n : Nat} {runs more : Int} {buf : Array Value} (h : Sk w W n runs more buf) (x : Int) : Sk w (W.setCell ⟨n + 1, 0, none⟩ (.int .i64 x)) n runs x buf := by
  obtain ⟨s, r, hc⟩ := h.chan
  refine ⟨h.runsAt.setOther _ _ _ (by omega), h.moreAt.setCell 0 _, h.wrAt.setOther _ _ _ (by omega), h.logAt.setOther _ _ _ (by omega), h.jobAt.setOther _ _ _ (by omega), h.chAt.setOther _ _ _ (by omega), ⟨s, r, ?_⟩, h.bel.setCell (p := ⟨n + 1, 0, none⟩) (by simp) _⟩
  rw [Below.heap_setCell _ _ _ _ (by omega : n + 5 ≠ n + 1)]; exact hc
theorem Sk.setChan {w W : World} {n : Nat} {runs more : Int} {buf : Array Value} (h : Sk w W n runs more buf) (buf' : Array Value) (s r : Nat) : Sk w (W.setChan (n + 5) 1 buf' false s r false) n runs more buf' := by
  obtain ⟨s0, r0, hc⟩ := h.chan
  have hlt : n + 5 < W.heap.size := (Array.getElem?_eq_some_iff.1 hc).1
  have o : ∀ g, n + 5 ≠ g → (W.setChan (n + 5) 1 buf' false s r false).heap[g]? = W.heap[g]? := fun g hg => heap_setChanOther _ _ _ _ _ _ _ _ _ hg
  refine ⟨(o _ (by omega)).trans h.runsAt, (o _ (by omega)).trans h.moreAt, (o _ (by omega)).trans h.wrAt, (o _ (by omega)).trans h.logAt, (o _ (by omega)).trans h.jobAt, (o _ (by omega)).trans h.chAt, ⟨s, r, heap_setChan _ _ _ _ _ _ _ _ hlt⟩, below_setChan h.bel (by omega) _ _ _ _ _ _⟩

/-! ### Methods -/
theorem runMeth (f : Fn) (c : Array Value) (w : World) : (method 204 TF (.func f #[] c) "Run").run Try.prog w = .ok (51, .func f #[] c) w := by kernel_rfl
theorem infoMeth (w : World) : (method 203 TD (.agg #[]) "Info").run Try.prog w = .ok (50, .agg #[]) w := by kernel_rfl

set_option maxHeartbeats 400000 in
theorem info_any (s : ByteArray) (w : World) : Calls Try.prog 50 #[.agg #[], .string s, .slice none 0 0] w fun e w' => e = .returned (.tuple #[]) ∧ Below w.heap.size w w' := by
  go_enter Try.func50, Try.ntmps50
  go_wp2_with fail
  exact bodyPost_end (results_none Try.results50 _ _ _) rfl ⟨rfl, (Below.refl _ w).alloc (Nat.le_refl _) _⟩

/-- What a call leaves behind: nothing comes back, the rows stand. -/
def SkPost (w : World) (n : Nat) (runs more : Int) (buf : Array Value) (e : Ending) (w' : World) : Prop := e = .returned (.tuple #[]) ∧ Sk w w' n runs more buf

set_option maxRecDepth 100000 in
set_option maxHeartbeats 2000000 in
theorem skip_busy {w W : World} {n : Nat} {runs more : Int} (h : Sk w W n runs more #[]) :
    Calls Try.prog 15 #[ptr (n + 6), ptr (n + 4), ptr (n + 3)] W (SkPost w n runs more #[]) := by
  refine calls_of_loneTo (fun cs => ?_)
  have e : Frame.enter Try.prog 15 #[ptr (n + 6), ptr (n + 4), ptr (n + 3)] .normal = (base 15).at ⟨#[ptr (n + 6), ptr (n + 4), ptr (n + 3), undef, undef, undef, undef, undef, undef, undef, undef, undef, undef, undef, undef], []⟩ [.code (Try.f15.body.getD .skip)] := by
    simp [Frame.enter, Frame.at, Try.func15, base, Try.f15]
  rw [e]
  have hch := h.chAt.cell 0
  obtain ⟨s, r, hc⟩ := h.chan
  simp only [List.getElem?_toArray, List.getElem?_cons_zero] at hch
  refine LoneTo.goes (n := 7) ?_
  simp only [Try.f15, Option.getD_some]
  s_c stepG_seq
  s_reg
  s_op
  s_c stepG_region_end
  s_c stepG_seq
  s_reg
  s_stop
  refine LoneTo.step (step_lone_select_default (c := n + 5) (z := .agg #[]) (cap := 1) (s := s) (r := r) (tm := false) (stepG_comm (cases := #[rcase (n + 5) (.agg #[])]) (blocking := false) (shape := .select) (w' := W) rfl rfl (by decide) (by simp [go_sem, execOp, rcase, Act.eval])) hc) ?_
  rw [Frame.finish_at]
  walk_nrm
  refine LoneTo.goes (n := 5) ?_
  s_op
  s_op
  s_c stepG_region_end
  s_c stepG_block
  s_cond false
  s_stop
  refine LoneTo.code (Qc := fun e a' w' => e = .normal ∧ a'.defers = [] ∧ Sk w w' n runs more #[]) ?_ ?_
  · have hl := h.logAt.cell 0
    simp only [List.getElem?_toArray, List.getElem?_cons_zero] at hl
    have hm := infoMeth
    have H := Lib.hid h
    clear h hch hc e
    go_wp2_with fail
    refine (info_any _ _).mono ?_
    rintro e w1 ⟨rfl, hb⟩
    have H2 := H.out.below hb
    clear hb H hl hm
    go_wp2_with fail
  · rintro e2 a' w' ⟨rfl, hd, h2⟩
    refine ⟨rfl, ?_⟩
    refine LoneTo.goes (n := 2) ?_
    s_c stepG_inBlock
    s_c stepG_end
    s_stop
    refine LoneTo.done ⟨.returned (.tuple #[]), _, rfl, ⟨rfl, h2⟩, rfl, rfl, hd, rfl, _, Try.func15, results_none Try.results15 _ _ _⟩

set_option maxHeartbeats 2000000 in
theorem run_any {W : World} {f : FuncId} {cap : Array Value} {R : World → Prop} (hcf : ∀ W', (callFunc f cap).run Try.prog W' = .ok (.enter f cap) W') (H : Hid (Calls Try.prog f cap W fun e w' => e = .returned (.tuple #[]) ∧ R w')) :
    Calls Try.prog 51 #[.func (.func f) #[] cap] W fun e w' => e = .returned (.tuple #[]) ∧ R w' := by
  go_enter Try.func51, Try.ntmps51
  go_wp2_with fail
  refine H.out.mono ?_
  rintro e w1 ⟨rfl, hr⟩
  go_wp2_with fail
  exact bodyPost_end (results_none Try.results51 _ _ _) rfl ⟨rfl, hr⟩
theorem wrap_calls (n : Nat) (W : World) : (callFunc 15 #[ptr (n + 6), ptr (n + 4), ptr (n + 3)]).run Try.prog W = .ok (.enter 15 #[ptr (n + 6), ptr (n + 4), ptr (n + 3)]) W := by kernel_rfl
theorem job_calls (n : Nat) (W : World) : (callFunc 11 #[ptr n, ptr (n + 1), ptr (n + 2)]).run Try.prog W = .ok (.enter 11 #[ptr n, ptr (n + 1), ptr (n + 2)]) W := by kernel_rfl

theorem run_busy {w W : World} {n : Nat} {runs more : Int} (h : Sk w W n runs more #[]) : Calls Try.prog 51 #[wrapV n] W (SkPost w n runs more #[]) :=
  run_any (wrap_calls n) (Lib.hid (skip_busy h))

set_option maxRecDepth 100000 in
set_option maxHeartbeats 4000000 in
theorem job_any {w W : World} {n : Nat} {runs more : Int} (h : Sk w W n runs more #[]) (h0 : 0 ≤ runs) (h1 : runs ≤ 1000) (h2 : more ≤ 1000) :
    Calls Try.prog 11 #[ptr n, ptr (n + 1), ptr (n + 2)] W (SkPost w n (runs + 1) more #[]) := by
  have c0 := h.runsAt.cell 0
  have f0 := h.runsAt.free 0
  simp only [List.getElem?_toArray, List.getElem?_cons_zero] at c0
  have hm := runMeth
  have H := Lib.hid (h.setRuns (runs + 1))
  clear h
  go_enter Try.func11, Try.ntmps11
  go_wp2_with fail
  clear c0 f0
  generalize W.setCell ⟨n, 0, none⟩ (.int .i64 (runs + 1)) = W1 at H ⊢
  go_loopw [3] (fun v wr => ∃ k : Nat, v = .int .i64 k ∧ ((k : Int) ≤ more ∨ k = 0) ∧ Sk w wr n (runs + 1) more #[]) (fun v _ => 2000 - (intOf v).toNat)
  case atStart => exact ⟨0, rfl, .inr rfl, H.out⟩
  case round =>
    clear H
    obtain ⟨k, rfl, hk, hs⟩ := hrel
    have c1 := hs.moreAt.cell 0
    have c2 := hs.wrAt.cell 0
    simp only [List.getElem?_toArray, List.getElem?_cons_zero] at c1 c2
    have HS := Lib.hid hs
    clear hs
    by_cases hlt : (k : Int) < more
    · have hl : ((k : Int) < more) = True := eq_true hlt
      go_wp2_with fail
      refine (run_busy HS.out).mono ?_
      rintro e w1 ⟨rfl, h3⟩
      have H3 := Lib.hid h3
      clear h3 HS c1 c2
      go_wp2_with fail
      go_roundw
      case rel => exact ⟨k + 1, by go_num, .inl (by omega), H3.out⟩
      case measure => simp [intOf]; omega
    · go_wp2_with fail
      exact bodyPost_end (results_none Try.results11 _ _ _) rfl ⟨rfl, HS.out⟩
theorem run_job {w W : World} {n : Nat} {runs more : Int} (h : Sk w W n runs more #[]) (h0 : 0 ≤ runs) (h1 : runs ≤ 1000) (h2 : more ≤ 1000) : Calls Try.prog 51 #[jobV n] W (SkPost w n (runs + 1) more #[]) :=
  run_any (job_calls n) (Lib.hid (job_any h h0 h1 h2))

set_option maxRecDepth 100000 in
set_option maxHeartbeats 4000000 in
theorem skip_idle {w W : World} {n : Nat} {runs more : Int} (h : Sk w W n runs more #[.agg #[]]) (h0 : 0 ≤ runs) (h1 : runs ≤ 1000) (h2 : more ≤ 1000) :
    Calls Try.prog 15 #[ptr (n + 6), ptr (n + 4), ptr (n + 3)] W (SkPost w n (runs + 1) more #[.agg #[]]) := by
  refine calls_of_loneTo (fun cs => ?_)
  have e : Frame.enter Try.prog 15 #[ptr (n + 6), ptr (n + 4), ptr (n + 3)] .normal = (base 15).at ⟨#[ptr (n + 6), ptr (n + 4), ptr (n + 3), undef, undef, undef, undef, undef, undef, undef, undef, undef, undef, undef, undef], []⟩ [.code (Try.f15.body.getD .skip)] := by
    simp [Frame.enter, Frame.at, Try.func15, base, Try.f15]
  rw [e]
  have hch := h.chAt.cell 0
  obtain ⟨s, r, hc⟩ := h.chan
  simp only [List.getElem?_toArray, List.getElem?_cons_zero] at hch
  refine LoneTo.goes (n := 7) ?_
  simp only [Try.f15, Option.getD_some]
  s_c stepG_seq
  s_reg
  s_op
  s_c stepG_region_end
  s_c stepG_seq
  s_reg
  s_stop
  refine LoneTo.step (step_lone_select_recv_buf (c := n + 5) (z := .agg #[]) (cap := 1) (s := s) (r := r) (tm := false) (closed := false) (buf := #[.agg #[]]) (stepG_comm (cases := #[rcase (n + 5) (.agg #[])]) (blocking := false) (shape := .select) (w' := W) rfl rfl (by decide) (by simp [go_sem, execOp, rcase, Act.eval])) hc (by simp)) ?_
  rw [Frame.finish_at]
  have H := h.setChan (#[.agg #[]].extract 1 1) s (r + 1)
  have hb0 : (#[.agg #[]].extract 1 1 : Array Value) = #[] := by simp
  have hw0 : (W.setChan (n + 5) 1 ((#[.agg #[]] : Array Value).extract 1 (#[.agg #[]] : Array Value).size) false s (r + 1) false) = W.setChan (n + 5) 1 #[] false s (r + 1) false := by simp
  rw [hw0]
  rw [hb0] at H
  generalize W.setChan (n + 5) 1 #[] false s (r + 1) false = W1 at H ⊢
  clear hw0 hb0 h hch hc e
  walk_nrm
  refine LoneTo.goes (n := 11) ?_
  s_op
  s_op
  s_c stepG_region_end
  s_c stepG_block
  s_cond true
  s_c stepG_seq
  s_reg
  s_op
  s_op
  s_op
  s_c stepG_region_end
  s_stop
  have H2 := H.below ((Below.refl _ W1).alloc (Nat.le_refl _) (.cells #[] 34))
  have hp : W1.heap.size < (W1.alloc (.cells #[] 34)).heap.size := by simp
  generalize (W1.alloc (.cells #[] 34)) = W2 at H2 hp ⊢
  generalize W1.heap.size = p at hp ⊢
  have c2 := H2.jobAt.cell 0
  simp only [List.getElem?_toArray, List.getElem?_cons_zero] at c2
  refine LoneTo.goes (n := 4) ?_
  s_c stepG_seq
  s_reg
  s_op
  s_stop
  have hm := runMeth
  refine LoneTo.call (w' := W2) (f := 51) (args := #[jobV n]) rfl rfl (by simp [go_sem, execOp, Act.eval, hm]; try kernel_rfl) (run_job H2 h0 h1 h2) ?_
  rintro e3 W3 ⟨rfl, H3⟩
  refine ⟨_, rfl, ?_⟩
  clear H H2 c2 hm hp
  have c3 := H3.chAt.cell 0
  simp only [List.getElem?_toArray, List.getElem?_cons_zero] at c3
  walk_nrm
  refine LoneTo.goes (n := 5) ?_
  s_c stepG_region_end
  s_reg
  s_op
  s_op
  s_stop
  obtain ⟨s3, r3, hc3⟩ := H3.chan
  refine LoneTo.step (step_lone_send_room (c := n + 5) (v := .agg #[]) (cap := 1) (buf := #[]) (s := s3) (r := r3) (tm := false) (stepG_comm (cases := #[scase (n + 5) (.agg #[]) (.tuple #[])]) (blocking := true) (shape := .send) (w' := W3) rfl rfl (by decide) (by simp [execOp, scase, Act.eval])) hc3 (by simp)) ?_
  rw [Frame.finish_at]
  have H4 := H3.setChan (#[].push (.agg #[])) (s3 + 1) r3
  generalize W3.setChan (n + 5) 1 ((#[] : Array Value).push (.agg #[])) false (s3 + 1) r3 false = W4 at H4 ⊢
  clear H3 hc3 c3
  walk_nrm
  refine LoneTo.goes (n := 3) ?_
  s_c stepG_region_end
  s_c stepG_inBlock
  s_c stepG_end
  s_stop
  exact LoneTo.done ⟨.returned (.tuple #[]), _, rfl, ⟨rfl, H4⟩, rfl, rfl, rfl, rfl, _, Try.func15, results_none Try.results15 _ _ _⟩

theorem run_idle {w W : World} {n : Nat} {runs more : Int} (h : Sk w W n runs more #[.agg #[]]) (h0 : 0 ≤ runs) (h1 : runs ≤ 1000) (h2 : more ≤ 1000) : Calls Try.prog 51 #[wrapV n] W (SkPost w n (runs + 1) more #[.agg #[]]) :=
  run_any (wrap_calls n) (Lib.hid (skip_idle h h0 h1 h2))

set_option maxHeartbeats 2000000 in
theorem skipIf_any (w : World) (n : Nat) (hn : n = w.heap.size) : Calls Try.prog 10 #[.iface TD (.agg #[])] w fun e w' => e = .returned (.func (.func 14) #[] #[ptr n]) ∧ w' = w.alloc (.cells #[.iface TD (.agg #[])] 43) := by
  subst hn
  have hmf : ∀ (fn : Fn) (first cap : Array Value) (w : World), (Instr.makeFunc fn first cap).run Try.prog w = .ok (.func fn first cap) w := fun _ _ _ _ => rfl
  go_enter Try.func10, Try.ntmps10
  go_wp2_with fail
  go_ret
  exact ⟨rfl, rfl⟩

theorem bytes_unit : ∃ i, Try.prog.info? 34 = some i ∧ i.bytes = 0 := by
  have h : (Try.prog.info? 34).map (·.bytes) = some 0 := by kernel_rfl
  obtain ⟨i, hi, hb⟩ := Option.map_eq_some_iff.1 h
  exact ⟨i, hi, hb⟩
theorem mkch (w : World) : (Instr.makeChan 44 (.int .i64 1)).run Try.prog w = .ok (.chan (some w.heap.size)) (w.alloc (.chan 1 #[] false 0 0 false)) := by
  obtain ⟨i, hi, hb⟩ := bytes_unit
  simpa using run_makeChan (P := Try.prog) (w := w) Try.underlying44 hi .i64 1 (by omega) (by rw [hb]; omega)

/-- What the wrapper makes of a job: rows behind n + 3. -/
def skWorld (w : World) (J : Value) (m : Nat) : World := ((w.alloc (.cells #[J] 30)).alloc (.chan 1 #[] false 0 0 false)).alloc (.cells #[.chan (some (m + 1))] 44)
set_option maxRecDepth 100000 in
set_option maxHeartbeats 4000000 in
theorem wrapper_any (w : World) (n : Nat) (J : Value) (hn : w.heap.size = n + 4) :
    Calls Try.prog 14 #[.iface TF J, ptr (n + 3)] w fun e w' => e = .returned (.iface TF (wrapV n)) ∧ w' = (skWorld w (.iface TF J) (n + 4)).setChan (n + 5) 1 #[.agg #[]] false 1 0 false := by
  refine calls_of_loneTo (fun cs => ?_)
  have e : Frame.enter Try.prog 14 #[.iface TF J, ptr (n + 3)] .normal = (base 14).at ⟨#[.iface TF J, ptr (n + 3), undef, undef, undef, undef, undef, undef, undef, undef], []⟩ [.code (Try.f14.body.getD .skip)] := by
    simp [Frame.enter, Frame.at, Try.func14, base, Try.f14]
  rw [e]
  clear e
  have hmc := mkch
  have hmf : ∀ (fn : Fn) (first cap : Array Value) (w : World), (Instr.makeFunc fn first cap).run Try.prog w = .ok (.func fn first cap) w := fun _ _ _ _ => rfl
  refine LoneTo.goes (n := 15) ?_
  simp only [Try.f14, Option.getD_some]
  s_c stepG_seq
  s_reg
  s_op
  s_op
  s_c stepG_region_end
  s_c stepG_seq
  s_reg
  s_op
  s_op
  s_op
  s_c stepG_region_end
  s_c stepG_seq
  s_reg
  s_op
  s_op
  s_stop
  have hW : (((w.alloc (.cells #[.iface TF J] 30)).alloc (.chan 1 #[] false 0 0 false)).alloc (.cells #[.chan (some (n + 4 + 1))] 44)) = skWorld w (.iface TF J) (n + 4) := rfl
  rw [hW]
  have hc : (skWorld w (.iface TF J) (n + 4)).heap[n + 5]? = some (.chan 1 #[] false 0 0 false) := by
    unfold skWorld
    rw [Below.heap_alloc _ _ _ (by simp [hn])]
    have := heap_alloc_new (w.alloc (.cells #[.iface TF J] 30)) (.chan 1 #[] false 0 0 false)
    simpa [hn] using this
  refine LoneTo.step (step_lone_send_room (c := n + 5) (v := .agg #[]) (cap := 1) (buf := #[]) (s := 0) (r := 0) (tm := false) (stepG_comm (cases := #[scase (n + 5) (.agg #[]) (.tuple #[])]) (blocking := true) (shape := .send) (w' := skWorld w (.iface TF J) (n + 4)) rfl rfl (by decide) (by simp [execOp, scase, Act.eval])) hc (by simp)) ?_
  rw [Frame.finish_at]
  generalize hWc : (skWorld w (.iface TF J) (n + 4)).setChan (n + 5) 1 ((#[] : Array Value).push (.agg #[])) false (0 + 1) 0 false = Wc
  walk_nrm
  refine LoneTo.goes (n := 8) ?_
  s_c stepG_region_end
  s_c stepG_seq
  s_reg
  s_op
  s_op
  s_op
  s_c stepG_region_end
  s_c stepG_ret'
  s_stop
  refine LoneTo.done ⟨.returned (.iface TF (wrapV n)), _, rfl, ⟨rfl, ?_⟩, rfl, rfl, rfl, rfl, _, Try.func14, by simp [results, Try.f14, Frame.at]⟩
  rw [← hWc]
  rfl
end Go.Proofs.Ytljopdkonahfhaa
