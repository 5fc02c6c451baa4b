/- spec.CronBits of a set. -/
import Derived.Test.YtcbcmbkioibliaaDoorCrWh
import Derived.Test.YtcbcmbkioibliaaDoorCrStar
namespace Go.Proofs.YtcbcmbkioibliaaDoor
open Go.RowKit Go.Shelf
set_option linter.unusedVariables false
set_option linter.unusedSimpArgs false

theorem setOf_none (q : Nat → Bool) (h : ∀ v, v < 64 → q v = false) : setOf q = 0 :=
  (setOf_ext 0 q (by decide) (fun v hv => by rw [h v hv]; simp)).symm
theorem setOf_same (q q2 : Nat → Bool) (h : ∀ v, v < 64 → q2 v = q v) : setOf q = setOf q2 :=
  setOf_ext _ _ (setOf_lt _) (fun v hv => by rw [setOf_bit, h v hv]; simp [hv])
theorem setOf_or (q q2 : Nat → Bool) (n : Nat) (hn : n < 64) (h : ∀ v, v < 64 → q2 v = (q v || decide (n = v))) :
    bits .or .u64 (setOf q : Nat) (IntKind.u64.wrap (2 ^ n)) = (setOf q2 : Nat) := by
  have hp : 2 ^ n < 18446744073709551616 := Nat.pow_lt_pow_right (a := 2) (by omega) (show n < 64 by omega)
  have e : IntKind.u64.wrap (2 ^ n) = ((2 ^ n : Nat) : Int) := by
    rw [IntKind.wrap_u64, show (2 : Int) ^ n = ((2 ^ n : Nat) : Int) from by simp]
    generalize 2 ^ n = x at hp
    omega
  rw [e, u64_or_nat _ _ (setOf_lt _) hp]
  congr 1
  refine setOf_ext _ _ (Nat.or_lt_two_pow (n := 64) (setOf_lt _) hp) fun v hv => ?_
  rw [Nat.testBit_or, Nat.testBit_two_pow, setOf_bit, h v hv]
  simp [hv]

def tailAt (f : Nat → Bool) : List Value := (List.range 63).map (fun i => .bool (f i))
theorem tailAt_get (f : Nat → Bool) (k : Nat) (hk : k < 63) : (tailAt f).toArray[k]? = some (.bool (f k)) := by simp [tailAt, hk]
theorem index_arr (t : TypeId) (n : Nat) (cs : Array Value) (k : Nat) (v : Value) (h : Tryd.prog.underlying t = some (.array n 4)) (hk : k < n) (hv : cs[k]? = some v) (W : World) :
    (Instr.index t (.agg cs) (.int .i64 k)).run Tryd.prog W = .ok v W := by
  have s1 : ∀ W, (sizeOf 4).run Tryd.prog W = .ok 1 W := fun W => by kernel_rfl
  have s2 : ∀ W, (isAgg 4).run Tryd.prog W = .ok false W := fun W => by kernel_rfl
  have hn : (0 : Int) ≤ k ∧ (k : Int) < (n : Int) := by omega
  simp [Instr.index, run_underlying h, asIntOf, hn, go_sem, hv, hk, s1, s2]

set_option maxRecDepth 100000 in
set_option maxHeartbeats 4000000 in
theorem bits_any (F : Nat → Bool) (A : Array Value) (hA : Hid (A = (boolAt F).toArray)) (w : World) :
    Calls Tryd.prog 11 #[.agg A] w fun e w' => e = .returned (.int .u64 ((setOf (fun i => decide (i < 63) && F i) ||| 9223372036854775808 : Nat))) ∧ Below w.heap.size w w' := by
  have R0 : (w.alloc (.cells A 35)).rangeAt w.heap.size 0 (boolAt F) := by
    have h := heap_alloc_new w (.cells A 35)
    intro j v hv
    rw [show 0 + j = j by omega, cell_of_row _ _ _ A _ (0, 0) h, hA.out]
    simpa using hv
  have R1 : (w.alloc (.cells A 35)).rangeAt w.heap.size 1 (tailAt F) := by
    intro j v hv
    have hj : j < 63 := by
      obtain ⟨h1, _⟩ := List.getElem?_eq_some_iff.1 hv
      simpa [tailAt] using h1
    have := boolAt_cell R0 j hj
    rw [this]
    have h2 : (tailAt F)[j]? = some (.bool (F j)) := by simpa using tailAt_get F j hj
    rw [h2] at hv
    exact hv
  have cs : (w.alloc (.cells A 35)).cell? ⟨w.heap.size, 0, none⟩ = some (.bool true) := R0 0 _ rfl
  have hidx : Hid (∀ k W, k < 63 → (Instr.index 33 (.agg (tailAt F).toArray) (.int .i64 (k : Nat))).run Tryd.prog W = .ok (.bool (F k)) W) :=
    fun k W hk => index_arr _ _ _ k _ Tryd.underlying33 hk (tailAt_get F k hk) W
  have bk : Below w.heap.size w (w.alloc (.cells A 35)) := Below.alloc (Below.refl _ _) (Nat.le_refl _) _
  go_enter Tryd.func11, Tryd.ntmps11
  go_wp2_with (first | (refine wpList_load_mid rfl 33 (.tmp 6) rfl w.heap.size 1 rfl (tailAt F) _ R1 Tryd.underlying33 rfl ((by kernel_rfl : (Tryd.prog.info? 33).map (·.size) = some 63).trans (by simp [tailAt])) (stop_here ?_)))
  generalize (tailAt F).toArray = B at hidx ⊢
  clear R0 R1
  generalize w.alloc (.cells A 35) = W1 at *
  unfold Stop
  go_wp2_with fail
  go_loopw [3, 4, 5, 8] (fun b _ _ v wr => wr = W1 ∧ ∃ n : Nat, n ≤ 63 ∧ v = .int .i64 n ∧ b = .int .u64 ((setOf (fun i => decide (i < n) && F i) : Nat))) (fun _ _ _ v _ => 63 - (intOf v).toNat)
  case atStart => exact ⟨rfl, 0, by omega, rfl, by rw [setOf_none _ (fun v _ => by simp)]; rfl⟩
  case round =>
    obtain ⟨rfl, n, hn, rfl, rfl⟩ := hrel
    by_cases hlt : n < 63
    · have hx := fun W => hidx.out n W hlt
      have l1 : ((n : Int) < 63) = True := by simp; omega
      cases hb : F n with
      | false =>
        have HN := Lib.hid (setOf_same (fun i => decide (i < n) && F i) (fun i => decide (i < n + 1) && F i) (fun v _ => by
          by_cases e : v = n
          · subst e; simp [hb]
          · by_cases h2 : v < n
            · simp [h2, show v < n + 1 by omega]
            · simp [h2, show ¬ v < n + 1 by omega]))
        rw [hb] at hx
        clear hb
        generalize setOf (fun i => decide (i < n) && F i) = Q at *
        go_wp2_with fail
        go_roundw
        case rel => exact ⟨trivial, n + 1, by omega, by go_num, by rw [HN.out]⟩
        case measure => simp [intOf]; omega
      | true =>
        have HN := Lib.hid (setOf_or (fun i => decide (i < n) && F i) (fun i => decide (i < n + 1) && F i) n (by omega) (fun v _ => by
          by_cases e : v = n
          · subst e; simp [hb]
          · by_cases h2 : v < n
            · simp [h2, show v < n + 1 by omega, show ¬ n = v by omega]
            · simp [h2, show ¬ v < n + 1 by omega, show ¬ n = v by omega]))
        rw [hb] at hx
        clear hb
        generalize setOf (fun i => decide (i < n) && F i) = Q at *
        go_wp2_with fail
        go_roundw
        case rel => exact ⟨trivial, n + 1, by omega, by go_num, by rw [← HN.out]⟩
        case measure => simp [intOf]; omega
    · have e : n = 63 := by omega
      subst e
      have ho := or_star _ (setOf_lt (fun i => decide (i < 63) && F i))
      go_wp2_with fail
      refine bodyPost_ret (v := .int .u64 ((setOf (fun i => decide (i < 63) && F i) ||| 9223372036854775808 : Nat))) (by simp [results, Tryd.results11, go_sem]) rfl ⟨rfl, bk⟩
end Go.Proofs.YtcbcmbkioibliaaDoor
