/- spec.CronBits of any set, laws.cronBits. -/
import Derived.Test.YtkhggefbkhdimaaGreatDoorFdR
import Derived.Test.YtkhggefbkhdimaaGreatDoorFdN
namespace Go.Proofs.YtkhggefbkhdimaaGreatDoor
open Go.RowKit Go.Shelf
set_option linter.unusedVariables false
set_option linter.unusedSimpArgs false

theorem setOf_none (q : Nat → Bool) (h : ∀ v, v < 64 → q v = false) : setOf q = 0 :=
  (setOf_ext 0 q (by decide) (fun v hv => by rw [h v hv]; simp)).symm
theorem setOf_same (q q2 : Nat → Bool) (h : ∀ v, v < 64 → q2 v = q v) : setOf q = setOf q2 :=
  setOf_ext _ _ (setOf_lt _) (fun v hv => by rw [setOf_bit, h v hv]; simp [hv])
theorem setOf_or (q q2 : Nat → Bool) (n : Nat) (hn : n < 64) (h : ∀ v, v < 64 → q2 v = (q v || decide (n = v))) :
    bits .or .u64 (setOf q : Nat) (IntKind.u64.wrap (2 ^ n)) = (setOf q2 : Nat) := by
  have hp : 2 ^ n < 18446744073709551616 := Nat.pow_lt_pow_right (a := 2) (by omega) (show n < 64 by omega)
  have e : IntKind.u64.wrap (2 ^ n) = ((2 ^ n : Nat) : Int) := by
    rw [IntKind.wrap_u64, show (2 : Int) ^ n = ((2 ^ n : Nat) : Int) from by simp]
    generalize 2 ^ n = x at hp
    omega
  rw [e, u64_or_nat _ _ (setOf_lt _) hp]
  congr 1
  refine setOf_ext _ _ (Nat.or_lt_two_pow (n := 64) (setOf_lt _) hp) fun v hv => ?_
  rw [Nat.testBit_or, Nat.testBit_two_pow, setOf_bit, h v hv]
  simp [hv]

/-- A set as bits. -/
def bitsN (st : Bool) (f : Nat → Bool) : Nat := setOf (fun i => decide (i < 63) && f i) ||| starN st

set_option maxRecDepth 100000 in
set_option maxHeartbeats 4000000 in
theorem bitsSet_any (st : Bool) (F : Nat → Bool) (A : Array Value) (hA : Hid (A = (setL st F).toArray)) (w : World) :
    Calls Tryz.prog 37 #[.agg A] w fun e w' => e = .returned (.int .u64 (bitsN st F : Nat)) ∧ Below w.heap.size w w' := by
  have HRb : Hid ((w.alloc (.cells A 28)).rangeAt w.heap.size 0 (setL st F)) := Lib.hid (box_range hA.out)
  have HRt := Lib.hid (tail_range HRb.out)
  have cs : (w.alloc (.cells A 28)).cell? ⟨w.heap.size, 0, none⟩ = some (.bool st) := HRb.out 0 _ rfl
  have hidx : Hid (∀ k W, k < 63 → (Instr.index 26 (.agg (tailL F).toArray) (.int .i64 (k : Nat))).run Tryz.prog W = .ok (.bool (F k)) W) :=
    Lib.hid (fun k W hk => index_arr _ _ _ k _ Tryz.underlying26 hk (tailL_get F k hk) W)
  have bk : Below w.heap.size w (w.alloc (.cells A 28)) := Below.alloc (Below.refl _ _) (Nat.le_refl _) _
  have HBN : Hid (bitsN st F = (setOf (fun i => decide (i < 63) && F i) ||| starN st)) := Lib.hid rfl
  generalize bitsN st F = BN at HBN ⊢
  go_enter Tryz.func37, Tryz.ntmps37
  go_wp2_with (first | (refine wpList_load_mid rfl 26 (.tmp 6) rfl w.heap.size 1 rfl (tailL F) _ HRt.out Tryz.underlying26 rfl ((by kernel_rfl : (Tryz.prog.info? 26).map (·.size) = some 63).trans (by rw [tailL_len])) (stop_here ?_)))
  generalize (tailL F).toArray = B at hidx ⊢
  clear HRb HRt
  generalize w.alloc (.cells A 28) = W1 at *
  unfold Stop
  go_wp2_with fail
  go_loopw [3, 4, 5, 8] (fun b _ _ v wr => wr = W1 ∧ ∃ n : Nat, n ≤ 63 ∧ v = .int .i64 n ∧ b = .int .u64 ((setOf (fun i => decide (i < n) && F i) : Nat))) (fun _ _ _ v _ => 63 - (intOf v).toNat)
  case atStart => exact ⟨rfl, 0, by omega, rfl, by rw [setOf_none _ (fun v _ => by simp)]; rfl⟩
  case round =>
    obtain ⟨rfl, n, hn, rfl, rfl⟩ := hrel
    by_cases hlt : n < 63
    · have hx := fun W => hidx.out n W hlt
      have l1 : ((n : Int) < 63) = True := by simp; omega
      cases hb : F n with
      | false =>
        have HN := Lib.hid (setOf_same (fun i => decide (i < n) && F i) (fun i => decide (i < n + 1) && F i) (fun v _ => by
          by_cases e : v = n
          · subst e; simp [hb]
          · by_cases h2 : v < n
            · simp [h2, show v < n + 1 by omega]
            · simp [h2, show ¬ v < n + 1 by omega]))
        rw [hb] at hx
        clear hb
        generalize setOf (fun i => decide (i < n) && F i) = Q at *
        go_wp2_with fail
        go_roundw
        case rel => exact ⟨trivial, n + 1, by omega, by go_num, by rw [HN.out]⟩
        case measure => simp [intOf]; omega
      | true =>
        have HN := Lib.hid (setOf_or (fun i => decide (i < n) && F i) (fun i => decide (i < n + 1) && F i) n (by omega) (fun v _ => by
          by_cases e : v = n
          · subst e; simp [hb]
          · by_cases h2 : v < n
            · simp [h2, show v < n + 1 by omega, show ¬ n = v by omega]
            · simp [h2, show ¬ v < n + 1 by omega, show ¬ n = v by omega]))
        rw [hb] at hx
        clear hb
        generalize setOf (fun i => decide (i < n) && F i) = Q at *
        go_wp2_with fail
        go_roundw
        case rel => exact ⟨trivial, n + 1, by omega, by go_num, by rw [← HN.out]⟩
        case measure => simp [intOf]; omega
    · have e : n = 63 := by omega
      subst e
      have hlt9 := setOf_lt (fun i => decide (i < 63) && F i)
      cases st with
      | true =>
        have ho := or_star _ hlt9
        have HB2 : Hid (BN = (setOf (fun i => decide (i < 63) && F i) ||| 9223372036854775808)) := Lib.hid HBN.out
        clear hlt9
        generalize setOf (fun i => decide (i < 63) && F i) = Q at *
        go_wp2_with fail
        refine bodyPost_ret (v := .int .u64 ((Q ||| 9223372036854775808 : Nat))) (by simp [results, Tryz.results37, go_sem]) rfl ⟨by rw [HB2.out], bk⟩
      | false =>
        have HB2 : Hid (BN = setOf (fun i => decide (i < 63) && F i)) := Lib.hid (by rw [HBN.out]; simp [starN])
        clear hlt9
        generalize setOf (fun i => decide (i < 63) && F i) = Q at *
        go_wp2_with fail
        refine bodyPost_ret (v := .int .u64 (Q : Nat)) (by simp [results, Tryz.results37, go_sem]) rfl ⟨by rw [HB2.out], bk⟩

set_option maxRecDepth 100000 in
set_option maxHeartbeats 4000000 in
theorem wpList_load_want {P : Program} {ops : Array Oper} {rest : List Oper} {op : Oper} {a : Act} {w : World} {Q : Exit → Act → World → Prop} (hw : Region.wanted op (yielded ops a.tmps) = true) (ty : TypeId) (x : Operand) (ho : op.op = .load ty x)
    (b o : Nat) (hx : a.eval x = .pointer (some ⟨b, o, none⟩)) (cs : List Value) (d : TypeDesc) (hc : w.rangeAt b o cs)
    (hu : P.underlying ty = some d) (hd : d.isRow = true) (hi : (P.info? ty).map (·.size) = some cs.length)
    (h : wpList P ops Q rest (a.put op.dst (.agg cs.toArray)) w) : wpList P ops Q (op :: rest) a w := by
  unfold wpList
  rw [if_pos hw]
  exact Or.inl (wp_load_mid ty x ho b o hx cs d hc hu hd hi h)
/-- What the code makes of a field's text is what the reference says. -/
theorem field_plain (k : Nat) (l : List UInt8) : (fieldN k l = 0 → fieldJ k l = none) ∧ (fieldN k l = 1 → fieldJ k l = some (bitsN (fieldT k l) (fieldF k l))) ∧ fieldN k l ≤ 2 := by
  have hlh := loK_hiK k
  have hV : ∀ t, ValOk (valS k t) (valB k t) := fun t => by
    have := valU_ok k (mkB t)
    rw [mkB_data] at this
    exact this
  have hI := fun t => item_ok (loK k) (hiK k) hlh.1 (by have := hlh.2; unfold hugeN; omega) (daysB k) (valS k) (valB k) hV t
  have hF := field_ok (itemK k) (itemJ k) (itemK_le k) (fun p h => (hI p).1 h) (fun p h => (hI p).2 h) (cutL 44 l)
  refine ⟨hF.1, fun h => ?_, fieldV_le _ (itemK_le k) _ _ (by decide)⟩
  rw [show fieldJ k l = some (fieldB (itemK k) (cutL 44 l) 0) from hF.2 h]
  congr 1
  obtain ⟨_, hall⟩ := field_one (itemK k) (itemK_le k) (cutL 44 l) 1 (by decide) h
  have hs := set_bits (itemK k) (cutL 44 l) hall (fun p hp => Nat.le_trans (item_high (loK k) (hiK k) (daysB k) (valS k) p (hall p hp).2) (by have := hlh.2; omega))
  rw [← hs]
  have hT : fieldT k l = memS (itemK k) (cutL 44 l) := by unfold fieldT; rw [h]; simp
  have hFF : fieldF k l = memF (itemK k) (cutL 44 l) := by funext i; unfold fieldF; rw [h]; simp
  unfold bitsN starN
  rw [hT, hFF]
end Go.Proofs.YtkhggefbkhdimaaGreatDoor
