/- spec.CronEmpty, CronNever. -/
import Derived.Test.YtpgclepiagfgfaaTsD
import Derived.ChangeKeysEq
import Derived.Laws.StructEq
namespace Go.Proofs.Ytpgclepiagfgfaa
open Go.RowKit
set_option linter.unusedVariables false
set_option linter.unusedSimpArgs false

def tailL (f : Nat → Bool) : List Value := (List.range 63).map (fun i => .bool (f i))
theorem tailL_len (f : Nat → Bool) : (tailL f).length = 63 := by simp [tailL]
theorem tailL_get (f : Nat → Bool) (i : Nat) (hi : i < 63) : (tailL f).toArray[i]? = some (.bool (f i)) := by simp [tailL, hi]
theorem tail_range {w : World} {g : Nat} {st : Bool} {f : Nat → Bool} (h : w.rangeAt g 0 (setL st f)) : w.rangeAt g 1 (tailL f) := fun j v hv => by
  have := h (j + 1) v (by unfold setL; rw [List.getElem?_cons_succ]; exact hv)
  rw [show 0 + (j + 1) = 1 + j by omega] at this
  exact this
/-- No value is in the set. -/
def emptyB (f : Nat → Bool) : Bool := (List.range 63).all fun i => !f i
theorem emptyB_iff (f : Nat → Bool) : emptyB f = true ↔ ∀ i, i < 63 → f i = false := by simp [emptyB]

theorem part_bool (f : Nat → Bool) (i : Nat) (hi : i < 63) (w : World) : (part 4 (tailL f).toArray i).run Try.prog w = .ok (.bool (f i)) w := by
  simp [part, isAgg, run_underlying Try.underlying4, tailL_get f i hi]
theorem equal_bool (d : Nat) (a b : Bool) (w : World) : (Op.equalIn (d + 1) 4 (.bool a) (.bool b)).run Try.prog w = .ok (a == b) w := by
  simp [Op.equalIn, run_underlying Try.underlying4]
theorem items_bool (d : Nat) (f : Nat → Bool) (w : World) : ∀ is : List Nat, (∀ i ∈ is, i < 63) → (Op.eqItems (d + 1) 4 1 (tailL f).toArray (tailL fun _ => false).toArray is).run Try.prog w = .ok (is.all fun i => !f i) w
  | [], _ => by simp [Op.eqItems]
  | i :: is, h => by
    have hi := h i (by simp)
    have ih := items_bool d f w is (fun j hj => h j (by simp [hj]))
    simp only [Op.eqItems, Sem.run_bind, Nat.mul_one, part_bool f i hi, part_bool (fun _ => false) i hi, equal_bool, Result.andThen_ok, List.all_cons]
    cases f i
    · simpa using ih
    · simp
theorem infoBm : (Try.prog.info? 4).map (·.size) = some 1 := by kernel_rfl
theorem infoB : ∃ i, Try.prog.info? 4 = some i := by
  cases h : Try.prog.info? 4 with
  | none => have := infoBm; rw [h] at this; cases this
  | some i => exact ⟨i, rfl⟩
theorem cellsB : Try.prog.cellsOf 4 = 1 := by kernel_rfl
theorem eql_bools (f : Nat → Bool) (w : World) : (binOp .eql 42 (.agg (tailL f).toArray) (.agg (tailL fun _ => false).toArray)).run Try.prog w = .ok (.bool (emptyB f)) w := by
  obtain ⟨i, hi⟩ := infoB
  rw [run_eql_struct, run_equalIn_array w 9999 _ _ Try.underlying42 hi, cellsB, items_bool 9998 f w _ (fun i hi => List.mem_range.1 hi)]
  rfl

set_option maxRecDepth 100000 in
set_option maxHeartbeats 4000000 in
theorem empty_any (A : Array Value) (st : Bool) (F : Nat → Bool) (hA : Hid (A = (setL st F).toArray)) (w : World) :
    Calls Try.prog 50 #[.agg A] w fun e w' => e = .returned (.bool (emptyB F)) ∧ Below w.heap.size w w' := by
  have R0 : (w.alloc (.cells A 44)).rangeAt w.heap.size 0 (setL st F) := by
    intro j v hv
    rw [show 0 + j = j by omega, cell_of_row _ _ _ A _ (0, 0) (heap_alloc_new w (.cells A 44)), hA.out]
    simpa using hv
  have HT := Lib.hid (tail_range R0)
  have HQ : ∀ w, (binOp .eql 42 (.agg (tailL F).toArray) (.agg #[.bool false, .bool false, .bool false, .bool false, .bool false, .bool false, .bool false, .bool false, .bool false, .bool false, .bool false, .bool false, .bool false, .bool false, .bool false, .bool false, .bool false, .bool false, .bool false, .bool false, .bool false, .bool false, .bool false, .bool false, .bool false, .bool false, .bool false, .bool false, .bool false, .bool false, .bool false, .bool false, .bool false, .bool false, .bool false, .bool false, .bool false, .bool false, .bool false, .bool false, .bool false, .bool false, .bool false, .bool false, .bool false, .bool false, .bool false, .bool false, .bool false, .bool false, .bool false, .bool false, .bool false, .bool false, .bool false, .bool false, .bool false, .bool false, .bool false, .bool false, .bool false, .bool false, .bool false])).run Try.prog w = .ok (.bool (emptyB F)) w := fun w => eql_bools F w
  have HFd : ∀ w, (Instr.field 44 (.agg #[.bool false, .bool false, .bool false, .bool false, .bool false, .bool false, .bool false, .bool false, .bool false, .bool false, .bool false, .bool false, .bool false, .bool false, .bool false, .bool false, .bool false, .bool false, .bool false, .bool false, .bool false, .bool false, .bool false, .bool false, .bool false, .bool false, .bool false, .bool false, .bool false, .bool false, .bool false, .bool false, .bool false, .bool false, .bool false, .bool false, .bool false, .bool false, .bool false, .bool false, .bool false, .bool false, .bool false, .bool false, .bool false, .bool false, .bool false, .bool false, .bool false, .bool false, .bool false, .bool false, .bool false, .bool false, .bool false, .bool false, .bool false, .bool false, .bool false, .bool false, .bool false, .bool false, .bool false, .bool false]) 1).run Try.prog w = .ok (.agg #[.bool false, .bool false, .bool false, .bool false, .bool false, .bool false, .bool false, .bool false, .bool false, .bool false, .bool false, .bool false, .bool false, .bool false, .bool false, .bool false, .bool false, .bool false, .bool false, .bool false, .bool false, .bool false, .bool false, .bool false, .bool false, .bool false, .bool false, .bool false, .bool false, .bool false, .bool false, .bool false, .bool false, .bool false, .bool false, .bool false, .bool false, .bool false, .bool false, .bool false, .bool false, .bool false, .bool false, .bool false, .bool false, .bool false, .bool false, .bool false, .bool false, .bool false, .bool false, .bool false, .bool false, .bool false, .bool false, .bool false, .bool false, .bool false, .bool false, .bool false, .bool false, .bool false, .bool false]) w := fun _ => by kernel_rfl
  clear R0
  go_enter Try.func50, Try.ntmps50
  go_wp2_with (first | (refine wpList_load_mid rfl 42 (.tmp 3) rfl w.heap.size 1 rfl (tailL F) _ HT.out Try.underlying42 rfl ((by kernel_rfl : (Try.prog.info? 42).map (·.size) = some 63).trans (by rw [tailL_len])) (stop_here ?_)))
  generalize (tailL F).toArray = B at HQ ⊢
  clear HT
  unfold Stop
  go_wp2_with fail
  go_ret
  exact ⟨rfl, (by repeat (first | (with_reducible assumption) | (with_reducible exact Below.refl _ _) | (with_reducible refine Below.setCell ?_ (by first | omega | (simp <;> omega)) _) | refine below_drewN ?_ _ | refine Below.drew ?_ | refine Below.alloc ?_ (by first | omega | (simp <;> omega)) _))⟩

theorem setK_range {w : World} {g : Nat} {s : Sched} (h : w.rangeAt g 0 (fieldsL s)) (k : Nat) (hk : k < 6) : w.rangeAt g (k * 64) (setK s k) := range_fields h k hk
theorem wpList_load_want {P : Program} {ops : Array Oper} {rest : List Oper} {op : Oper} {a : Act} {w : World} {Q : Exit → Act → World → Prop} (hw : Region.wanted op (yielded ops a.tmps) = true) (ty : TypeId) (x : Operand) (ho : op.op = .load ty x)
    (b o : Nat) (hx : a.eval x = .pointer (some ⟨b, o, none⟩)) (cs : List Value) (d : TypeDesc) (hc : w.rangeAt b o cs)
    (hu : P.underlying ty = some d) (hd : d.isRow = true) (hi : (P.info? ty).map (·.size) = some cs.length)
    (h : wpList P ops Q rest (a.put op.dst (.agg cs.toArray)) w) : wpList P ops Q (op :: rest) a w := by
  unfold wpList
  rw [if_pos hw]
  exact Or.inl (wp_load_mid ty x ho b o hx cs d hc hu hd hi h)
def neverB (s : Sched) : Bool := emptyB (inK s 2) || emptyB (inK s 1) || emptyB (inK s 0)
set_option maxRecDepth 100000 in
set_option maxHeartbeats 4000000 in
theorem never_any (A : Array Value) (s : Sched) (hA : Hid (A = (fieldsL s).toArray)) (w : World) :
    Calls Try.prog 30 #[.agg A] w fun e w' => e = .returned (.bool (neverB s)) ∧ Below w.heap.size w w' := by
  have R0 : (w.alloc (.cells A 46)).rangeAt w.heap.size 0 (fieldsL s) := by
    intro j v hv
    rw [show 0 + j = j by omega, cell_of_row _ _ _ A _ (0, 0) (heap_alloc_new w (.cells A 46)), hA.out]
    simpa using hv
  have HR := Lib.hid (range_fields R0)
  clear R0
  have bk : Below w.heap.size w (w.alloc (.cells A 46)) := (by repeat (first | (with_reducible assumption) | (with_reducible exact Below.refl _ _) | (with_reducible refine Below.setCell ?_ (by first | omega | (simp <;> omega)) _) | refine below_drewN ?_ _ | refine Below.drew ?_ | refine Below.alloc ?_ (by first | omega | (simp <;> omega)) _))
  obtain ⟨W0, hW0⟩ : ∃ W0, Hid (w.alloc (.cells A 46) = W0) := ⟨_, rfl⟩
  obtain ⟨g, hg⟩ : ∃ g, Hid (w.heap.size = g) := ⟨_, rfl⟩
  rw [hW0.out] at bk HR
  rw [hg.out] at HR
  go_enter Try.func30, Try.ntmps30
  go_wp2_with (first | (refine wpList_load_mid rfl 44 (.tmp 3) rfl w.heap.size 128 (by simp [Act.eval]) (setK s 2) _ (by rw [hW0.out, hg.out]; exact HR.out 2 (by decide)) Try.underlying44 rfl (infoCS.trans (by rw [setK_len])) (stop_here ?_)))
  rw [hW0.out]
  rw [hg.out]
  obtain ⟨A2, hA2⟩ : ∃ A2, Hid (A2 = (setK s 2).toArray) := ⟨_, rfl⟩
  rw [← hA2.out]
  unfold Stop
  go_wp2_with fail
  refine (empty_any A2 _ (inK s 2) hA2 _).mono ?_
  rintro e w1 ⟨rfl, hb⟩
  obtain ⟨e2, E2⟩ : ∃ e2, Hid (emptyB (inK s 2) = e2) := ⟨_, rfl⟩
  rw [E2.out]
  have Hw1 : Hid (∀ k, k < 6 → w1.rangeAt g (k * 64) (setK s k)) := Lib.hid (fun k hk => rangeAt_below (HR.out k hk) hb)
  have bk' := bk.trans (hb.mono bk.size)
  clear hb HR bk
  have bk := bk'
  clear bk'
  have HD : Hid (neverB s = (e2 || emptyB (inK s 1) || emptyB (inK s 0))) := by show _ = _; unfold neverB; rw [E2.out]
  cases e2 with
  | true =>
    go_wp2_with fail
    go_ret
    exact ⟨ret_bool (by rw [HD.out]; rfl), bk⟩
  | false =>
    go_wp2_with (first | (refine wpList_load_want (by rfl) 44 (.tmp 7) rfl g 64 (by simp [Act.eval]) (setK s 1) _ (Hw1.out 1 (by decide)) Try.underlying44 rfl (infoCS.trans (by rw [setK_len])) (stop_here ?_)))
    obtain ⟨A1, hA1⟩ : ∃ A1, Hid (A1 = (setK s 1).toArray) := ⟨_, rfl⟩
    rw [← hA1.out]
    unfold Stop
    go_wp2_with fail
    refine (empty_any A1 _ (inK s 1) hA1 _).mono ?_
    rintro e w2 ⟨rfl, hb⟩
    obtain ⟨e1, E1⟩ : ∃ e1, Hid (emptyB (inK s 1) = e1) := ⟨_, rfl⟩
    rw [E1.out]
    have Hw2 : Hid (∀ k, k < 6 → w2.rangeAt g (k * 64) (setK s k)) := Lib.hid (fun k hk => rangeAt_below (Hw1.out k hk) hb)
    have bk' := bk.trans (hb.mono bk.size)
    clear hb Hw1 bk
    have bk := bk'
    clear bk'
    have HD2 : Hid (neverB s = (e1 || emptyB (inK s 0))) := by show _ = _; rw [HD.out, E1.out]; rfl
    cases e1 with
    | true =>
      go_wp2_with fail
      go_ret
      exact ⟨ret_bool (by rw [HD2.out]; rfl), bk⟩
    | false =>
      go_wp2_with (first | (refine wpList_load_want (by rfl) 44 (.tmp 12) rfl g 0 (by simp [Act.eval]) (setK s 0) _ (Hw2.out 0 (by decide)) Try.underlying44 rfl (infoCS.trans (by rw [setK_len])) (stop_here ?_)))
      obtain ⟨A0, hA0⟩ : ∃ A0, Hid (A0 = (setK s 0).toArray) := ⟨_, rfl⟩
      rw [← hA0.out]
      unfold Stop
      go_wp2_with fail
      refine (empty_any A0 _ (inK s 0) hA0 _).mono ?_
      rintro e w3 ⟨rfl, hb⟩
      obtain ⟨e0, E0⟩ : ∃ e0, Hid (emptyB (inK s 0) = e0) := ⟨_, rfl⟩
      rw [E0.out]
      have Hw3 : Hid (∀ k, k < 6 → w3.rangeAt g (k * 64) (setK s k)) := Lib.hid (fun k hk => rangeAt_below (Hw2.out k hk) hb)
      have bk' := bk.trans (hb.mono bk.size)
      clear hb Hw2 bk
      have bk := bk'
      clear bk'
      go_wp2_with fail
      go_ret
      exact ⟨ret_bool (by rw [HD2.out, E0.out]; rfl), bk⟩

end Go.Proofs.Ytpgclepiagfgfaa
