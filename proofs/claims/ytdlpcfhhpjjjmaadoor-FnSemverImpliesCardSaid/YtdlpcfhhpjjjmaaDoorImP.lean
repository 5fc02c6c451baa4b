/- spec.Block at one, two and three numbers; spec.Least, spec.Bare. spec.once, spec.blocks: lists of points. spec.blocks. spec.Points: what it has in it. -/
import Derived.Test.YtdlpcfhhpjjjmaaDoorSvGoods
import Derived.Test.YtdlpcfhhpjjjmaaDoorTermHolds
import Derived.Test.YtdlpcfhhpjjjmaaDoorSl
import Derived.Maps.AppendAt
import Derived.Test.YtdlpcfhhpjjjmaaDoorTmA
namespace Go.Proofs.YtdlpcfhhpjjjmaaDoor
open Go.RowKit
set_option linter.unusedVariables false
set_option linter.unusedSimpArgs false

/-- The first release above all that begin with the first k numbers. -/
def blk1 (a : Int) : Option (Int × Int × Int) := if a + 1 < 18446744073709551616 then some (a + 1, 0, 0) else none
def blk2 (a b : Int) : Option (Int × Int × Int) := if b + 1 < 18446744073709551616 then some (a, b + 1, 0) else blk1 a
def blk3 (a b c : Int) : Option (Int × Int × Int) := if c + 1 < 18446744073709551616 then some (a, b, c + 1) else blk2 a b

def BlkPost (r : Option (Int × Int × Int)) (w : World) (e : Ending) (w' : World) : Prop :=
  ∃ (t : Int × Int × Int) (ok : Bool), e = .returned (.tuple #[.agg (plainC t.1 t.2.1 t.2.2 ⟨#[]⟩ ⟨#[]⟩), .bool ok]) ∧ Below w.heap.size w w' ∧ r = (if ok = true then some t else none)
theorem wrap_in (x : Int) (h0 : 0 ≤ x) (h : x + 1 < 18446744073709551616) : IntKind.u64.wrap (x + 1) = x + 1 := by
  simp only [IntKind.wrap, IntKind.bits, IntKind.signed]; simp; omega
theorem wrap_out (x : Int) (h : x + 1 = 18446744073709551616) : IntKind.u64.wrap (x + 1) = 0 := by
  rw [h]; decide

set_option maxRecDepth 100000 in
set_option maxHeartbeats 8000000 in
theorem block_1_1 (a b c : Int) (p m : ByteArray) (w : World) (ha0 : 0 ≤ a) (hb0 : 0 ≤ b) (hc0 : 0 ≤ c) (ha : a + 1 < 18446744073709551616) :
    Calls Tryd.prog 121 #[.agg (plainC a b c p m), .int .i64 1] w (BlkPost (some (a + 1, 0, 0)) w) := by
  have wa := wrap_in a ha0 ha
  have za : (a + 1 == 0) = false := by rw [beq_eq_false_iff_ne]; omega
  have ya : (a + 1 = 0) = False := eq_false (by omega)
  clear ha
  have mk : (min 3 1 : Int) = 1 := by decide
  go_enter Tryd.func121, Tryd.ntmps121
  go_wp2_with fail
  refine wp_loop_rounds 6 ?_
  rw [rounds_succ]
  go_wp2_with fail
  refine wp_loop_rounds 5 ?_
  rw [rounds_succ]
  go_wp2_with fail
  rw [rounds_succ]
  go_wp2_with fail
  rw [rounds_succ]
  go_wp2_with fail
  refine bodyPost_ret (v := .tuple #[.agg #[.int .u64 (a + 1), .int .u64 0, .int .u64 0, .string ⟨#[]⟩, .string ⟨#[]⟩], .bool true]) (by simp [results, Tryd.results121, go_sem]) rfl ?_
  exact ⟨(a + 1, 0, 0), true, rfl, (by repeat (first | (with_reducible assumption) | (with_reducible exact Below.refl _ _) | (with_reducible refine below_drewN ?_ _) | (with_reducible refine Below.drew ?_) | (with_reducible refine Below.setCell ?_ (by first | omega | (simp <;> omega)) _) | (with_reducible refine Below.alloc ?_ (by first | omega | (simp <;> omega)) _))), rfl⟩

set_option maxRecDepth 100000 in
set_option maxHeartbeats 8000000 in
theorem block_1_0 (a b c : Int) (p m : ByteArray) (w : World) (ha0 : 0 ≤ a) (hb0 : 0 ≤ b) (hc0 : 0 ≤ c) (ha : a + 1 = 18446744073709551616) :
    Calls Tryd.prog 121 #[.agg (plainC a b c p m), .int .i64 1] w (BlkPost (none) w) := by
  have wa := wrap_out a ha
  clear ha
  have mk : (min 3 1 : Int) = 1 := by decide
  go_enter Tryd.func121, Tryd.ntmps121
  go_wp2_with fail
  refine wp_loop_rounds 6 ?_
  rw [rounds_succ]
  go_wp2_with fail
  refine wp_loop_rounds 5 ?_
  rw [rounds_succ]
  go_wp2_with fail
  rw [rounds_succ]
  go_wp2_with fail
  rw [rounds_succ]
  go_wp2_with fail
  rw [rounds_succ]
  go_wp2_with fail
  refine bodyPost_ret (v := .tuple #[.agg #[.int .u64 0, .int .u64 0, .int .u64 0, .string ⟨#[]⟩, .string ⟨#[]⟩], .bool false]) (by simp [results, Tryd.results121, go_sem]) rfl ?_
  exact ⟨(0, 0, 0), false, rfl, (by repeat (first | (with_reducible assumption) | (with_reducible exact Below.refl _ _) | (with_reducible refine below_drewN ?_ _) | (with_reducible refine Below.drew ?_) | (with_reducible refine Below.setCell ?_ (by first | omega | (simp <;> omega)) _) | (with_reducible refine Below.alloc ?_ (by first | omega | (simp <;> omega)) _))), rfl⟩

set_option maxRecDepth 100000 in
set_option maxHeartbeats 8000000 in
theorem block_2_2 (a b c : Int) (p m : ByteArray) (w : World) (ha0 : 0 ≤ a) (hb0 : 0 ≤ b) (hc0 : 0 ≤ c) (hb : b + 1 < 18446744073709551616) :
    Calls Tryd.prog 121 #[.agg (plainC a b c p m), .int .i64 2] w (BlkPost (some (a, b + 1, 0)) w) := by
  have wb := wrap_in b hb0 hb
  have zb : (b + 1 == 0) = false := by rw [beq_eq_false_iff_ne]; omega
  have yb : (b + 1 = 0) = False := eq_false (by omega)
  clear hb
  have mk : (min 3 2 : Int) = 2 := by decide
  go_enter Tryd.func121, Tryd.ntmps121
  go_wp2_with fail
  refine wp_loop_rounds 6 ?_
  rw [rounds_succ]
  go_wp2_with fail
  refine wp_loop_rounds 5 ?_
  rw [rounds_succ]
  go_wp2_with fail
  rw [rounds_succ]
  go_wp2_with fail
  refine bodyPost_ret (v := .tuple #[.agg #[.int .u64 a, .int .u64 (b + 1), .int .u64 0, .string ⟨#[]⟩, .string ⟨#[]⟩], .bool true]) (by simp [results, Tryd.results121, go_sem]) rfl ?_
  exact ⟨(a, b + 1, 0), true, rfl, (by repeat (first | (with_reducible assumption) | (with_reducible exact Below.refl _ _) | (with_reducible refine below_drewN ?_ _) | (with_reducible refine Below.drew ?_) | (with_reducible refine Below.setCell ?_ (by first | omega | (simp <;> omega)) _) | (with_reducible refine Below.alloc ?_ (by first | omega | (simp <;> omega)) _))), rfl⟩

set_option maxRecDepth 100000 in
set_option maxHeartbeats 8000000 in
theorem block_2_1 (a b c : Int) (p m : ByteArray) (w : World) (ha0 : 0 ≤ a) (hb0 : 0 ≤ b) (hc0 : 0 ≤ c) (hb : b + 1 = 18446744073709551616) (ha : a + 1 < 18446744073709551616) :
    Calls Tryd.prog 121 #[.agg (plainC a b c p m), .int .i64 2] w (BlkPost (some (a + 1, 0, 0)) w) := by
  have wb := wrap_out b hb
  have wa := wrap_in a ha0 ha
  have za : (a + 1 == 0) = false := by rw [beq_eq_false_iff_ne]; omega
  have ya : (a + 1 = 0) = False := eq_false (by omega)
  clear hb
  clear ha
  have mk : (min 3 2 : Int) = 2 := by decide
  go_enter Tryd.func121, Tryd.ntmps121
  go_wp2_with fail
  refine wp_loop_rounds 6 ?_
  rw [rounds_succ]
  go_wp2_with fail
  refine wp_loop_rounds 5 ?_
  rw [rounds_succ]
  go_wp2_with fail
  rw [rounds_succ]
  go_wp2_with fail
  rw [rounds_succ]
  go_wp2_with fail
  refine wp_loop_rounds 5 ?_
  rw [rounds_succ]
  go_wp2_with fail
  rw [rounds_succ]
  go_wp2_with fail
  rw [rounds_succ]
  go_wp2_with fail
  refine bodyPost_ret (v := .tuple #[.agg #[.int .u64 (a + 1), .int .u64 0, .int .u64 0, .string ⟨#[]⟩, .string ⟨#[]⟩], .bool true]) (by simp [results, Tryd.results121, go_sem]) rfl ?_
  exact ⟨(a + 1, 0, 0), true, rfl, (by repeat (first | (with_reducible assumption) | (with_reducible exact Below.refl _ _) | (with_reducible refine below_drewN ?_ _) | (with_reducible refine Below.drew ?_) | (with_reducible refine Below.setCell ?_ (by first | omega | (simp <;> omega)) _) | (with_reducible refine Below.alloc ?_ (by first | omega | (simp <;> omega)) _))), rfl⟩

set_option maxRecDepth 100000 in
set_option maxHeartbeats 8000000 in
theorem block_2_0 (a b c : Int) (p m : ByteArray) (w : World) (ha0 : 0 ≤ a) (hb0 : 0 ≤ b) (hc0 : 0 ≤ c) (hb : b + 1 = 18446744073709551616) (ha : a + 1 = 18446744073709551616) :
    Calls Tryd.prog 121 #[.agg (plainC a b c p m), .int .i64 2] w (BlkPost (none) w) := by
  have wb := wrap_out b hb
  have wa := wrap_out a ha
  clear hb
  clear ha
  have mk : (min 3 2 : Int) = 2 := by decide
  go_enter Tryd.func121, Tryd.ntmps121
  go_wp2_with fail
  refine wp_loop_rounds 6 ?_
  rw [rounds_succ]
  go_wp2_with fail
  refine wp_loop_rounds 5 ?_
  rw [rounds_succ]
  go_wp2_with fail
  rw [rounds_succ]
  go_wp2_with fail
  rw [rounds_succ]
  go_wp2_with fail
  refine wp_loop_rounds 5 ?_
  rw [rounds_succ]
  go_wp2_with fail
  rw [rounds_succ]
  go_wp2_with fail
  rw [rounds_succ]
  go_wp2_with fail
  rw [rounds_succ]
  go_wp2_with fail
  refine bodyPost_ret (v := .tuple #[.agg #[.int .u64 0, .int .u64 0, .int .u64 0, .string ⟨#[]⟩, .string ⟨#[]⟩], .bool false]) (by simp [results, Tryd.results121, go_sem]) rfl ?_
  exact ⟨(0, 0, 0), false, rfl, (by repeat (first | (with_reducible assumption) | (with_reducible exact Below.refl _ _) | (with_reducible refine below_drewN ?_ _) | (with_reducible refine Below.drew ?_) | (with_reducible refine Below.setCell ?_ (by first | omega | (simp <;> omega)) _) | (with_reducible refine Below.alloc ?_ (by first | omega | (simp <;> omega)) _))), rfl⟩

set_option maxRecDepth 100000 in
set_option maxHeartbeats 8000000 in
theorem block_3_3 (a b c : Int) (p m : ByteArray) (w : World) (ha0 : 0 ≤ a) (hb0 : 0 ≤ b) (hc0 : 0 ≤ c) (hc : c + 1 < 18446744073709551616) :
    Calls Tryd.prog 121 #[.agg (plainC a b c p m), .int .i64 3] w (BlkPost (some (a, b, c + 1)) w) := by
  have wc := wrap_in c hc0 hc
  have zc : (c + 1 == 0) = false := by rw [beq_eq_false_iff_ne]; omega
  have yc : (c + 1 = 0) = False := eq_false (by omega)
  clear hc
  have mk : (min 3 3 : Int) = 3 := by decide
  go_enter Tryd.func121, Tryd.ntmps121
  go_wp2_with fail
  refine wp_loop_rounds 6 ?_
  rw [rounds_succ]
  go_wp2_with fail
  refine wp_loop_rounds 5 ?_
  rw [rounds_succ]
  go_wp2_with fail
  refine bodyPost_ret (v := .tuple #[.agg #[.int .u64 a, .int .u64 b, .int .u64 (c + 1), .string ⟨#[]⟩, .string ⟨#[]⟩], .bool true]) (by simp [results, Tryd.results121, go_sem]) rfl ?_
  exact ⟨(a, b, c + 1), true, rfl, (by repeat (first | (with_reducible assumption) | (with_reducible exact Below.refl _ _) | (with_reducible refine below_drewN ?_ _) | (with_reducible refine Below.drew ?_) | (with_reducible refine Below.setCell ?_ (by first | omega | (simp <;> omega)) _) | (with_reducible refine Below.alloc ?_ (by first | omega | (simp <;> omega)) _))), rfl⟩

set_option maxRecDepth 100000 in
set_option maxHeartbeats 8000000 in
theorem block_3_2 (a b c : Int) (p m : ByteArray) (w : World) (ha0 : 0 ≤ a) (hb0 : 0 ≤ b) (hc0 : 0 ≤ c) (hc : c + 1 = 18446744073709551616) (hb : b + 1 < 18446744073709551616) :
    Calls Tryd.prog 121 #[.agg (plainC a b c p m), .int .i64 3] w (BlkPost (some (a, b + 1, 0)) w) := by
  have wc := wrap_out c hc
  have wb := wrap_in b hb0 hb
  have zb : (b + 1 == 0) = false := by rw [beq_eq_false_iff_ne]; omega
  have yb : (b + 1 = 0) = False := eq_false (by omega)
  clear hc
  clear hb
  have mk : (min 3 3 : Int) = 3 := by decide
  go_enter Tryd.func121, Tryd.ntmps121
  go_wp2_with fail
  refine wp_loop_rounds 6 ?_
  rw [rounds_succ]
  go_wp2_with fail
  refine wp_loop_rounds 5 ?_
  rw [rounds_succ]
  go_wp2_with fail
  rw [rounds_succ]
  go_wp2_with fail
  refine wp_loop_rounds 5 ?_
  rw [rounds_succ]
  go_wp2_with fail
  rw [rounds_succ]
  go_wp2_with fail
  refine bodyPost_ret (v := .tuple #[.agg #[.int .u64 a, .int .u64 (b + 1), .int .u64 0, .string ⟨#[]⟩, .string ⟨#[]⟩], .bool true]) (by simp [results, Tryd.results121, go_sem]) rfl ?_
  exact ⟨(a, b + 1, 0), true, rfl, (by repeat (first | (with_reducible assumption) | (with_reducible exact Below.refl _ _) | (with_reducible refine below_drewN ?_ _) | (with_reducible refine Below.drew ?_) | (with_reducible refine Below.setCell ?_ (by first | omega | (simp <;> omega)) _) | (with_reducible refine Below.alloc ?_ (by first | omega | (simp <;> omega)) _))), rfl⟩

set_option maxRecDepth 100000 in
set_option maxHeartbeats 8000000 in
theorem block_3_1 (a b c : Int) (p m : ByteArray) (w : World) (ha0 : 0 ≤ a) (hb0 : 0 ≤ b) (hc0 : 0 ≤ c) (hc : c + 1 = 18446744073709551616) (hb : b + 1 = 18446744073709551616) (ha : a + 1 < 18446744073709551616) :
    Calls Tryd.prog 121 #[.agg (plainC a b c p m), .int .i64 3] w (BlkPost (some (a + 1, 0, 0)) w) := by
  have wc := wrap_out c hc
  have wb := wrap_out b hb
  have wa := wrap_in a ha0 ha
  have za : (a + 1 == 0) = false := by rw [beq_eq_false_iff_ne]; omega
  have ya : (a + 1 = 0) = False := eq_false (by omega)
  clear hc
  clear hb
  clear ha
  have mk : (min 3 3 : Int) = 3 := by decide
  go_enter Tryd.func121, Tryd.ntmps121
  go_wp2_with fail
  refine wp_loop_rounds 6 ?_
  rw [rounds_succ]
  go_wp2_with fail
  refine wp_loop_rounds 5 ?_
  rw [rounds_succ]
  go_wp2_with fail
  rw [rounds_succ]
  go_wp2_with fail
  refine wp_loop_rounds 5 ?_
  rw [rounds_succ]
  go_wp2_with fail
  rw [rounds_succ]
  go_wp2_with fail
  rw [rounds_succ]
  go_wp2_with fail
  refine wp_loop_rounds 5 ?_
  rw [rounds_succ]
  go_wp2_with fail
  rw [rounds_succ]
  go_wp2_with fail
  rw [rounds_succ]
  go_wp2_with fail
  refine bodyPost_ret (v := .tuple #[.agg #[.int .u64 (a + 1), .int .u64 0, .int .u64 0, .string ⟨#[]⟩, .string ⟨#[]⟩], .bool true]) (by simp [results, Tryd.results121, go_sem]) rfl ?_
  exact ⟨(a + 1, 0, 0), true, rfl, (by repeat (first | (with_reducible assumption) | (with_reducible exact Below.refl _ _) | (with_reducible refine below_drewN ?_ _) | (with_reducible refine Below.drew ?_) | (with_reducible refine Below.setCell ?_ (by first | omega | (simp <;> omega)) _) | (with_reducible refine Below.alloc ?_ (by first | omega | (simp <;> omega)) _))), rfl⟩

set_option maxRecDepth 100000 in
set_option maxHeartbeats 8000000 in
theorem block_3_0 (a b c : Int) (p m : ByteArray) (w : World) (ha0 : 0 ≤ a) (hb0 : 0 ≤ b) (hc0 : 0 ≤ c) (hc : c + 1 = 18446744073709551616) (hb : b + 1 = 18446744073709551616) (ha : a + 1 = 18446744073709551616) :
    Calls Tryd.prog 121 #[.agg (plainC a b c p m), .int .i64 3] w (BlkPost (none) w) := by
  have wc := wrap_out c hc
  have wb := wrap_out b hb
  have wa := wrap_out a ha
  clear hc
  clear hb
  clear ha
  have mk : (min 3 3 : Int) = 3 := by decide
  go_enter Tryd.func121, Tryd.ntmps121
  go_wp2_with fail
  refine wp_loop_rounds 6 ?_
  rw [rounds_succ]
  go_wp2_with fail
  refine wp_loop_rounds 5 ?_
  rw [rounds_succ]
  go_wp2_with fail
  rw [rounds_succ]
  go_wp2_with fail
  refine wp_loop_rounds 5 ?_
  rw [rounds_succ]
  go_wp2_with fail
  rw [rounds_succ]
  go_wp2_with fail
  rw [rounds_succ]
  go_wp2_with fail
  refine wp_loop_rounds 5 ?_
  rw [rounds_succ]
  go_wp2_with fail
  rw [rounds_succ]
  go_wp2_with fail
  rw [rounds_succ]
  go_wp2_with fail
  rw [rounds_succ]
  go_wp2_with fail
  refine bodyPost_ret (v := .tuple #[.agg #[.int .u64 0, .int .u64 0, .int .u64 0, .string ⟨#[]⟩, .string ⟨#[]⟩], .bool false]) (by simp [results, Tryd.results121, go_sem]) rfl ?_
  exact ⟨(0, 0, 0), false, rfl, (by repeat (first | (with_reducible assumption) | (with_reducible exact Below.refl _ _) | (with_reducible refine below_drewN ?_ _) | (with_reducible refine Below.drew ?_) | (with_reducible refine Below.setCell ?_ (by first | omega | (simp <;> omega)) _) | (with_reducible refine Below.alloc ?_ (by first | omega | (simp <;> omega)) _))), rfl⟩

theorem block_1 (a b c : Int) (p m : ByteArray) (w : World) (ha : 0 ≤ a ∧ a < 18446744073709551616) (hb : 0 ≤ b ∧ b < 18446744073709551616) (hc : 0 ≤ c ∧ c < 18446744073709551616) :
    Calls Tryd.prog 121 #[.agg (plainC a b c p m), .int .i64 1] w (BlkPost (blk1 a) w) := by
  unfold blk1
  by_cases ga : a + 1 < 18446744073709551616
  · rw [if_pos ga]; exact block_1_1 a b c p m w ha.1 hb.1 hc.1  ga
  · rw [if_neg ga]
    exact block_1_0 a b c p m w ha.1 hb.1 hc.1 (by omega)
theorem block_2 (a b c : Int) (p m : ByteArray) (w : World) (ha : 0 ≤ a ∧ a < 18446744073709551616) (hb : 0 ≤ b ∧ b < 18446744073709551616) (hc : 0 ≤ c ∧ c < 18446744073709551616) :
    Calls Tryd.prog 121 #[.agg (plainC a b c p m), .int .i64 2] w (BlkPost (blk2 a b) w) := by
  unfold blk2 blk1
  by_cases gb : b + 1 < 18446744073709551616
  · rw [if_pos gb]; exact block_2_2 a b c p m w ha.1 hb.1 hc.1  gb
  · rw [if_neg gb]
    by_cases ga : a + 1 < 18446744073709551616
    · rw [if_pos ga]; exact block_2_1 a b c p m w ha.1 hb.1 hc.1 (by omega) ga
    · rw [if_neg ga]
      exact block_2_0 a b c p m w ha.1 hb.1 hc.1 (by omega) (by omega)
theorem block_3 (a b c : Int) (p m : ByteArray) (w : World) (ha : 0 ≤ a ∧ a < 18446744073709551616) (hb : 0 ≤ b ∧ b < 18446744073709551616) (hc : 0 ≤ c ∧ c < 18446744073709551616) :
    Calls Tryd.prog 121 #[.agg (plainC a b c p m), .int .i64 3] w (BlkPost (blk3 a b c) w) := by
  unfold blk3 blk2 blk1
  by_cases gc : c + 1 < 18446744073709551616
  · rw [if_pos gc]; exact block_3_3 a b c p m w ha.1 hb.1 hc.1  gc
  · rw [if_neg gc]
    by_cases gb : b + 1 < 18446744073709551616
    · rw [if_pos gb]; exact block_3_2 a b c p m w ha.1 hb.1 hc.1 (by omega) gb
    · rw [if_neg gb]
      by_cases ga : a + 1 < 18446744073709551616
      · rw [if_pos ga]; exact block_3_1 a b c p m w ha.1 hb.1 hc.1 (by omega) (by omega) ga
      · rw [if_neg ga]
        exact block_3_0 a b c p m w ha.1 hb.1 hc.1 (by omega) (by omega) (by omega)

theorem least_im (o g a b c : Int) (p : ByteArray) (w : World) :
    Calls Tryd.prog 30 #[.agg (termC o g a b c p)] w fun e w' => e = .returned (.agg (plainC a b c p ⟨#[]⟩)) ∧ Below w.heap.size w w' := by
  go_enter Tryd.func30, Tryd.ntmps30
  go_wp2_with fail
  refine bodyPost_ret (v := .agg (plainC a b c p ⟨#[]⟩)) (by simp [results, Tryd.results30, go_sem]) rfl ⟨rfl, ?_⟩
  exact (by repeat (first | (with_reducible assumption) | (with_reducible exact Below.refl _ _) | (with_reducible refine below_drewN ?_ _) | (with_reducible refine Below.drew ?_) | (with_reducible refine Below.setCell ?_ (by first | omega | (simp <;> omega)) _) | (with_reducible refine Below.alloc ?_ (by first | omega | (simp <;> omega)) _)))
theorem bare_im (a b c : Int) (p m : ByteArray) (w : World) :
    Calls Tryd.prog 43 #[.agg (plainC a b c p m)] w fun e w' => e = .returned (.agg (plainC a b c ⟨#[]⟩ ⟨#[]⟩)) ∧ Below w.heap.size w w' := by
  go_enter Tryd.func43, Tryd.ntmps43
  go_wp2_with fail
  refine bodyPost_ret (v := .agg (plainC a b c ⟨#[]⟩ ⟨#[]⟩)) (by simp [results, Tryd.results43, go_sem]) rfl ⟨rfl, ?_⟩
  exact (by repeat (first | (with_reducible assumption) | (with_reducible exact Below.refl _ _) | (with_reducible refine below_drewN ?_ _) | (with_reducible refine Below.drew ?_) | (with_reducible refine Below.setCell ?_ (by first | omega | (simp <;> omega)) _) | (with_reducible refine Below.alloc ?_ (by first | omega | (simp <;> omega)) _)))
end Go.Proofs.YtdlpcfhhpjjjmaaDoor

namespace Go.Proofs.YtdlpcfhhpjjjmaaDoor
open Go.RowKit
set_option linter.unusedVariables false
set_option linter.unusedSimpArgs false

abbrev Pt := Int × Int × Int
def ptL (t : Pt) : List Value := (plainC t.1 t.2.1 t.2.2 ⟨#[]⟩ ⟨#[]⟩).toList
def RPt (_ : World) (us : List Value) (t : Pt) : Prop := us = ptL t
theorem RPt.stab {e : TypeId} : Stab e RPt := fun _ _ _ _ _ h => h
theorem RPt.mono : Mono RPt := fun _ _ _ _ _ h => h
theorem Tryd.infoVr : (Tryd.prog.info? 25).map (fun i => (i.zero, i.size, i.bytes)) = some (some (.agg #[.int .u64 0, .int .u64 0, .int .u64 0, .string ByteArray.empty, .string ByteArray.empty]), 5, 56) := by kernel_rfl

/-- But for one row w' has all that w has. -/
def Kb (w w' : World) (row : Option Nat) : Prop := w'.os = w.os ∧ w'.tape = w.tape ∧ w'.output = w.output ∧ w.heap.size ≤ w'.heap.size ∧ ∀ k : Nat, k < w.heap.size → row ≠ some k → w'.heap[k]? = w.heap[k]?
theorem Kb.refl (w : World) (r : Option Nat) : Kb w w r := ⟨rfl, rfl, rfl, Nat.le_refl _, fun _ _ _ => rfl⟩
theorem Kb.trans {a b c : World} {r r1 : Option Nat} (h : Kb a b r) (k : Kb b c r1) (hr : r1 = r ∨ ∀ g, r1 = some g → a.heap.size ≤ g) : Kb a c r :=
  ⟨k.1.trans h.1, k.2.1.trans h.2.1, k.2.2.1.trans h.2.2.1, Nat.le_trans h.2.2.2.1 k.2.2.2.1, fun i hi hn => by
    refine (k.2.2.2.2 i (Nat.lt_of_lt_of_le hi h.2.2.2.1) ?_).trans (h.2.2.2.2 i hi hn)
    rcases hr with rfl | hr
    · exact hn
    · intro e; have := hr i e; omega⟩
theorem Kb.ofBelow {w w' : World} (r : Option Nat) (h : Below w.heap.size w w') : Kb w w' r := ⟨h.os, h.tape, h.output, h.size, fun k hk _ => h.block k hk⟩
theorem Kb.ofGrown {w w' : World} {r : Option Nat} (h : w.grownBy w' r) : Kb w w' r := ⟨h.os, h.tape, h.output, h.size, fun k hk hn => h.block k hk (fun e => hn e.symm)⟩
theorem Kb.below {w w' : World} {r : Option Nat} {B : Nat} (h : Kb w w' r) (hB : B ≤ w.heap.size) (hr : ∀ g, r = some g → B ≤ g) : Below B w w' :=
  ⟨h.1, h.2.1, h.2.2.1, h.2.2.2.1, fun k hk => h.2.2.2.2 k (by omega) (fun e => by have := hr k e; omega)⟩
theorem OwnOf.kb {α : Type} {R : World → List Value → α → Prop} {z B : Nat} {e : TypeId} {w w' : World} {r : Option Nat} {v : Value} {l : List α} (hR : ∀ us x, R w us x → R w' us x) (h : OwnOf R z B e w v l) (hk : Kb w w' r) (hn : ∀ g, v.ownBlock = some g → r ≠ some g) : OwnOf R z B e w' v l := by
  obtain ⟨cs, hl, hz, hown, hr⟩ := h
  refine ⟨cs, hl, hz, ⟨hown.1, ?_⟩, fun i x us hi hu => hR _ _ (hr i x us hi hu)⟩
  rcases hown.2 with h0 | ⟨g, cap, cur, rfl, hb, hg, h1⟩
  · exact .inl h0
  · exact .inr ⟨g, cap, cur, rfl, hb, (hk.2.2.2.2 g (Array.getElem?_eq_some_iff.1 hg).1 (hn g rfl)).trans hg, h1⟩
theorem OwnOf.lt9 {α : Type} {R : World → List Value → α → Prop} {z B : Nat} {e : TypeId} {w : World} {v : Value} {l : List α} (h : OwnOf R z B e w v l) : ∀ k, v.ownBlock = some k → B ≤ k ∧ k < w.heap.size := fun k hk => by
  obtain ⟨cs, _, _, hown, _⟩ := h
  exact hown.lt k hk

/-- 'append' on a slice of the call's own, and where its row lies behind it. -/
theorem wpList_append_at {P : Program} {w : World} {ops : Array Oper} {rest : List Oper} {o : Oper} {a : Act} {Q : Exit → Act → World → Prop} (hgd : o.guard = none) (s x : Operand) (t : TypeId)
    (ho : o.op = .call { callee := .builtin .append, args := #[s, x], argTypes := #[t, t] })
    (base : Nat) (e : TypeId) (i : TypeInfo) (z : Value) (size bytes : Nat) (ht : P.underlying t = some (.slice e)) (hi : P.info? e = some i) (hz : i.zero = some z)
    (hsize : i.size = size) (hby : i.bytes = bytes) (hzs : z.cells.size = size) (hsz : 0 < size)
    (v : Value) (n : Nat) (xs : List Value) (hs : a.eval s = v) (hown : w.ownsRow base e size v n xs)
    (ad : Addr) (m c : Nat) (news : List Value) (hx : a.eval x = .slice (some ad) m c) (hl : news.length = m * size) (hnews : ∀ j u, news[j]? = some u → w.cell? (ad.add j) = some u) (h1 : ∀ u ∈ news, u.oneCell' = true)
    (h63 : n + m ≤ maxLen) (hbytes : (n + m) * bytes ≤ 140737488355328) (hbase : base ≤ w.heap.size)
    (h : ∀ v' w', w'.ownsRow base e size v' (n + m) (xs ++ news) → w.grownBy w' v.ownBlock → (v'.ownBlock = v.ownBlock ∨ v'.ownBlock = some w.heap.size) → wpList P ops Q rest (a.put o.dst v') w') : wpList P ops Q (o :: rest) a w :=
  wpList_plain hgd fun _ hK => by
    obtain ⟨v', w', hr, h2, h3, _, h4⟩ := run_append_own_at (P := P) w base t o.type e i z size bytes ht hi hz hsize hby hzs hsz v n xs hown ad m c news hl hnews h1 h63 hbytes hbase
    unfold Oper.wp execOp
    simp only [ho, resolve, invoke, builtin, Sem.run_bind, Sem.run_pure, Result.andThen_ok, List.map_toArray, List.map_cons, List.map_nil, hs, hx, hr]
    exact hK _ _ (h v' w' h2 h3 h4)

def OncePost (B : Nat) (v1 : Value) (L M : List Pt) (w : World) (e : Ending) (w' : World) : Prop :=
  ∃ v' L', e = .returned v' ∧ OwnOf RPt 5 B 25 w' v' L' ∧ (∀ x ∈ L, x ∈ L') ∧ (∀ x ∈ M, x ∈ L') ∧ (∀ x ∈ L', x ∈ L ∨ x ∈ M) ∧ L'.length ≤ L.length + M.length ∧ Kb w w' v1.ownBlock ∧ (v'.ownBlock = v1.ownBlock ∨ ∀ g, v'.ownBlock = some g → w.heap.size ≤ g)

/-- Where spec.once stands behind k of the further points. -/
def OnceR (B : Nat) (v1 : Value) (L M : List Pt) (w : World) (k : Nat) (L' : List Pt) (v : Value) (wr : World) : Prop :=
  OwnOf RPt 5 B 25 wr v L' ∧ (∀ x ∈ L, x ∈ L') ∧ (∀ (j : Nat) (x : Pt), j < k → M[j]? = some x → x ∈ L') ∧ (∀ x ∈ L', x ∈ L ∨ x ∈ M) ∧ Kb w wr v1.ownBlock ∧ (v.ownBlock = v1.ownBlock ∨ ∀ g, v.ownBlock = some g → w.heap.size ≤ g)
theorem OnceR.keep {B : Nat} {v1 : Value} {L M : List Pt} {w : World} {k : Nat} {L' : List Pt} {v : Value} {wr wi : World} {x : Pt} (h : OnceR B v1 L M w k L' v wr) (hb : Below wr.heap.size wr wi) (hx : M[k]? = some x) (hin : x ∈ L') : OnceR B v1 L M w (k + 1) L' v wi :=
  ⟨h.1.below RPt.mono hb, h.2.1, fun j y hj hy => by
    by_cases e : j < k
    · exact h.2.2.1 j y e hy
    · obtain rfl : j = k := by omega
      rw [hx] at hy; cases hy; exact hin, h.2.2.2.1, h.2.2.2.2.1.trans (Kb.ofBelow _ hb) (Or.inl rfl), h.2.2.2.2.2⟩
theorem OnceR.push {B : Nat} {v1 : Value} {L M : List Pt} {w : World} {k : Nat} {L' : List Pt} {v v' : Value} {wr w2 : World} {x : Pt} (h : OnceR B v1 L M w k L' v wr) (hk : Kb wr w2 v.ownBlock) (hx : M[k]? = some x) (hp : OwnOf RPt 5 B 25 w2 v' (L' ++ [x]))
    (hv : v'.ownBlock = v.ownBlock ∨ ∀ g, v'.ownBlock = some g → w.heap.size ≤ g) : OnceR B v1 L M w (k + 1) (L' ++ [x]) v' w2 := by
  refine ⟨hp, fun y hy => List.mem_append_left _ (h.2.1 y hy), fun j y hj hy => ?_, fun y hy => ?_, h.2.2.2.2.1.trans hk h.2.2.2.2.2, ?_⟩
  · by_cases e : j < k
    · exact List.mem_append_left _ (h.2.2.1 j y e hy)
    · obtain rfl : j = k := by omega
      rw [hx] at hy; cases hy; simp
  · rcases List.mem_append.1 hy with h1 | h1
    · exact h.2.2.2.1 y h1
    · rw [List.mem_singleton] at h1; subst h1; exact Or.inr (List.mem_of_getElem? hx)
  · rcases hv with e | e
    · rw [e]; exact h.2.2.2.2.2
    · exact Or.inr e

set_option maxRecDepth 100000 in
set_option maxHeartbeats 4000000 in
theorem once_any (B : Nat) (L M : List Pt) (v1 v2 : Value) (w : World) (h1 : Hid (OwnOf RPt 5 B 25 w v1 L)) (h2 : Hid (OwnOf RPt 5 0 25 w v2 M)) (hne : Hid (∀ g, v2.ownBlock = some g → v1.ownBlock ≠ some g)) (hB : B ≤ w.heap.size) (hL : L.length ≤ 100000) (hM : M.length ≤ 100000) :
    Calls Tryd.prog 111 #[v1, v2] w (OncePost B v1 L M w) := by
  obtain ⟨i0, hi, hz0, hz1, hz2⟩ := info_parts Tryd.infoVr
  obtain ⟨ao2, cap2, e2⟩ := h2.out.sl.len
  subst e2
  go_enter Tryd.func111, Tryd.ntmps111
  go_wp2_with fail
  go_loopw [0, 12] (fun v i wr => ∃ (k : Nat) (L' : List Pt), k ≤ M.length ∧ i = .int .i64 k ∧ Hid (OnceR B v1 L M w k L' v wr) ∧ L'.length ≤ L.length + k) (fun _ i _ => M.length - (intOf i).toNat)
  case atStart => exact ⟨0, L, Nat.zero_le _, rfl, ⟨h1.out, fun _ h => h, fun j x h => by omega, fun _ h => Or.inl h, Kb.refl _ _, Or.inl rfl⟩, by omega⟩
  case round =>
    obtain ⟨k, L', hk, rfl, HR, hlen⟩ := hrel
    by_cases hkL : k < M.length
    · obtain ⟨x, hx⟩ : ∃ x, M[k]? = some x := ⟨M[k], List.getElem?_eq_getElem hkL⟩
      have hM2 := OwnOf.kb (R := RPt) (w := w) (w' := wr) (fun _ _ h => h) h2.out HR.out.2.2.2.2.1 hne.out
      obtain ⟨ao3, cap3, e3, hx3⟩ := hM2.sl
      simp only [Value.slice.injEq, true_and] at e3
      obtain ⟨rfl, rfl⟩ := e3
      obtain ⟨b, off, us, rfl, hz, hcell, hu⟩ := hx3 k x hx
      have HXk := Lib.hid hx
      obtain ⟨xa, xb, xc⟩ := x
      unfold RPt ptL at hu
      subst hu
      have k0 := hcell 0 _ rfl
      have k1 := hcell 1 _ rfl
      have k2 := hcell 2 _ rfl
      have k3 := hcell 3 _ rfl
      have k4 := hcell 4 _ rfl
      simp only [Nat.add_zero] at k0
      clear hcell hx3 hM2 hx hz
      obtain ⟨ao4, cap4, rfl⟩ := HR.out.1.sl.len
      obtain ⟨ao5, cap5, e5, hx5⟩ := HR.out.1.sl
      simp only [Value.slice.injEq, true_and] at e5
      obtain ⟨rfl, rfl⟩ := e5
      have HX5 := Lib.hid hx5
      clear hx5
      have bX := Lib.hid ((Below.refl wr.heap.size wr).alloc (Nat.le_refl _) (.cells #[.int .u64 xa, .int .u64 xb, .int .u64 xc, .string ⟨#[]⟩, .string ⟨#[]⟩] 25))
      go_wp2_with fail
      go_loopw [7, 18] (fun iv i wi => ∃ (m : Nat) (b : Bool), m ≤ L'.length ∧ i = .int .i64 m ∧ iv = .bool b ∧ Hid ((b = true → (xa, xb, xc) ∈ L') ∧ Below wr.heap.size wr wi) ∧ Hid (wi.heap[wr.heap.size]? = some (.cells #[.int .u64 xa, .int .u64 xb, .int .u64 xc, .string ⟨#[]⟩, .string ⟨#[]⟩] 25 (0, 0)))) (fun _ i _ => L'.length - (intOf i).toNat)
      case atStart => exact ⟨0, false, Nat.zero_le _, rfl, rfl, ⟨(fun h => by cases h), bX.out⟩, heap_alloc_new wr _⟩
      case round =>
        obtain ⟨m, bb, hm, rfl, rfl, hrec, hxb⟩ := hrel
        by_cases hmL : m < L'.length
        · obtain ⟨y, hy⟩ : ∃ y, L'[m]? = some y := ⟨L'[m], List.getElem?_eq_getElem hmL⟩
          obtain ⟨b6, off6, us6, rfl, hz6, hcell6, hu6⟩ := HX5.out m y hy
          have HY := Lib.hid hy
          obtain ⟨ya, yb, yc⟩ := y
          unfold RPt ptL at hu6
          subst hu6
          have j0 := cellBS hrec.out.2 (hcell6 0 _ rfl)
          have j1 := cellBS hrec.out.2 (hcell6 1 _ rfl)
          have j2 := cellBS hrec.out.2 (hcell6 2 _ rfl)
          have j3 := cellBS hrec.out.2 (hcell6 3 _ rfl)
          have j4 := cellBS hrec.out.2 (hcell6 4 _ rfl)
          simp only [Nat.add_zero] at j0
          clear hcell6 hz6 hy
          have b8 := Lib.hid (hrec.out.2.alloc hrec.out.2.size (.cells #[.int .u64 ya, .int .u64 yb, .int .u64 yc, .string ⟨#[]⟩, .string ⟨#[]⟩] 25))
          have hxb8 := Lib.hid ((Below.heap_alloc wr (.cells #[.int .u64 ya, .int .u64 yb, .int .u64 yc, .string ⟨#[]⟩, .string ⟨#[]⟩] 25) _ (Array.getElem?_eq_some_iff.1 hxb.out).1).trans hxb.out)
          have x0 := cell_of_row _ _ 0 _ _ (0, 0) hxb8.out
          have x1 := cell_of_row _ _ 1 _ _ (0, 0) hxb8.out
          have x2 := cell_of_row _ _ 2 _ _ (0, 0) hxb8.out
          have x3 := cell_of_row _ _ 3 _ _ (0, 0) hxb8.out
          have x4 := cell_of_row _ _ 4 _ _ (0, 0) hxb8.out
          have hmem := Lib.hid (List.mem_of_getElem? HY.out)
          cases bb with
          | true =>
            go_wp2_with fail
            go_roundw
            case rel => exact ⟨m + 1, true, by omega, by go_num, rfl, ⟨hrec.out.1, b8.out⟩, hxb8⟩
            case measure => simp [intOf]; omega
          | false =>
            by_cases ea : xa = ya
            · subst ea
              by_cases eb : xb = yb
              · subst eb
                by_cases ec : xc = yc
                · subst ec
                  go_wp2_with fail
                  go_roundw
                  case rel => exact ⟨m + 1, true, by omega, by go_num, rfl, ⟨(fun _ => hmem.out), b8.out⟩, hxb8⟩
                  case measure => simp [intOf]; omega
                · go_wp2_with fail
                  go_roundw
                  case rel => exact ⟨m + 1, false, by omega, by go_num, rfl, ⟨(fun h => by cases h), b8.out⟩, hxb8⟩
                  case measure => simp [intOf]; omega
              · go_wp2_with fail
                go_roundw
                case rel => exact ⟨m + 1, false, by omega, by go_num, rfl, ⟨(fun h => by cases h), b8.out⟩, hxb8⟩
                case measure => simp [intOf]; omega
            · go_wp2_with fail
              go_roundw
              case rel => exact ⟨m + 1, false, by omega, by go_num, rfl, ⟨(fun h => by cases h), b8.out⟩, hxb8⟩
              case measure => simp [intOf]; omega
        · have x0 := cell_of_row _ _ 0 _ _ (0, 0) hxb.out
          have x1 := cell_of_row _ _ 1 _ _ (0, 0) hxb.out
          have x2 := cell_of_row _ _ 2 _ _ (0, 0) hxb.out
          have x3 := cell_of_row _ _ 3 _ _ (0, 0) hxb.out
          have x4 := cell_of_row _ _ 4 _ _ (0, 0) hxb.out
          cases bb with
          | true =>
            have hin := Lib.hid (hrec.out.1 rfl)
            have HN := Lib.hid (OnceR.keep HR.out hrec.out.2 HXk.out hin.out)
            go_wp2_with fail
            go_roundw
            case rel => exact ⟨k + 1, L', by omega, by go_num, HN, by omega⟩
            case measure => simp [intOf]; omega
          | false =>
            have bY := hrec.out.2.alloc hrec.out.2.size (.cells #[.int .u64 xa, .int .u64 xb, .int .u64 xc, .string ⟨#[]⟩, .string ⟨#[]⟩] 25)
            obtain ⟨cs, hcl, hcz, hown2, hR⟩ := HR.out.1.below RPt.mono bY
            go_wp2_with (at_builtin; refine stop_here ?_)
            unfold Stop
            refine wpList_append_at rfl _ _ 62 rfl _ 25 i0 (.agg #[.int .u64 0, .int .u64 0, .int .u64 0, .string ByteArray.empty, .string ByteArray.empty]) 5 56 Tryd.underlying62 hi hz0 hz1 hz2 rfl (by decide) _ _ _ rfl hown2 ⟨wr.heap.size, 0, none⟩ 1 1 (ptL (xa, xb, xc)) rfl rfl (cells_new _ _ _) ?_ ?_ ?_ ?_ ?_
            · intro u hu; unfold ptL at hu; simp at hu; rcases hu with rfl | rfl | rfl | rfl | rfl <;> rfl
            · unfold maxLen; omega
            · omega
            · exact Nat.le_trans hB (Nat.le_trans HR.out.2.2.2.2.1.2.2.2.1 bY.size)
            intro v' w2 hown3 hgrow hat
            have hp := OwnOf.push (RPt.stab (e := 25)) rfl hcl hcz hown2 hR hgrow hown3 rfl (show RPt _ _ (xa, xb, xc) from rfl)
            have hsz : Hid (v'.ownBlock = (Value.slice ao4 L'.length cap4).ownBlock ∨ ∀ g, v'.ownBlock = some g → w.heap.size ≤ g) := by
              rcases hat with h | h
              · exact Or.inl h
              · right; intro g hg; rw [h] at hg; cases hg; exact Nat.le_trans HR.out.2.2.2.2.1.2.2.2.1 bY.size
            have HN := Lib.hid (OnceR.push HR.out ((Kb.ofBelow _ bY).trans (Kb.ofGrown hgrow) (Or.inl rfl)) HXk.out hp hsz.out)
            clear hgrow hown3 hown2 hR hcz hcl hat hp
            go_wp2_with fail
            go_roundw
            case rel => exact ⟨k + 1, L' ++ [(xa, xb, xc)], by omega, by go_num, HN, by simp; omega⟩
            case measure => simp [intOf]; omega
    · have hall : Hid (∀ x ∈ M, x ∈ L') := fun x hx => by
        obtain ⟨j, hj⟩ := List.getElem?_of_mem hx
        exact HR.out.2.2.1 j x (by have := (List.getElem?_eq_some_iff.1 hj).1; omega) hj
      go_wp2_with fail
      go_ret
      exact ⟨_, L', rfl, HR.out.1, HR.out.2.1, hall, HR.out.2.2.2.1, by omega, HR.out.2.2.2.2.1, HR.out.2.2.2.2.2⟩
end Go.Proofs.YtdlpcfhhpjjjmaaDoor

namespace Go.Proofs.YtdlpcfhhpjjjmaaDoor
open Go.RowKit
set_option linter.unusedVariables false
set_option linter.unusedSimpArgs false

theorem cells_at (W : World) (cs : Array Value) (ty : TypeId) (n : Nat) (hn : n = W.heap.size) : ∀ (j : Nat) (u : Value), cs.toList[j]? = some u → (W.alloc (.cells cs ty)).cell? ((⟨n, 0, none⟩ : Addr).add j) = some u := by
  subst hn; exact cells_new W cs ty
def blkK (k : Nat) (a b c : Int) : Option Pt := if k = 1 then blk1 a else if k = 2 then blk2 a b else blk3 a b c
def blkU (n : Nat) (a b c : Int) : List Pt := (List.range n).filterMap fun i => blkK (i + 1) a b c
theorem blkU_step (n : Nat) (a b c : Int) : blkU (n + 1) a b c = blkU n a b c ++ (blkK (n + 1) a b c).toList := by
  unfold blkU
  rw [List.range_succ, List.filterMap_append]
  simp only [List.filterMap_cons, List.filterMap_nil]
  cases blkK (n + 1) a b c <;> rfl
theorem blkU_len (n : Nat) (a b c : Int) : (blkU n a b c).length ≤ n := by
  unfold blkU
  exact Nat.le_trans (List.length_filterMap_le _ _) (by simp)
def In64 (a : Int) : Prop := 0 ≤ a ∧ a < 18446744073709551616
theorem block_K (k : Nat) (hk : 1 ≤ k ∧ k ≤ 3) (a b c : Int) (p m : ByteArray) (w : World) (ha : In64 a) (hb : In64 b) (hc : In64 c) :
    Calls Tryd.prog 121 #[.agg (plainC a b c p m), .int .i64 k] w (BlkPost (blkK k a b c) w) := by
  have : k = 1 ∨ k = 2 ∨ k = 3 := by omega
  rcases this with rfl | rfl | rfl
  · exact block_1 a b c p m w ha hb hc
  · exact block_2 a b c p m w ha hb hc
  · exact block_3 a b c p m w ha hb hc

theorem PlainAt.below8 {w w' : World} {g : Nat} {cs : Array Value} (h : PlainAt w g cs) (hb : Below w.heap.size w w') : PlainAt w' g cs := (hb.block g h.lt).trans h

set_option maxRecDepth 100000 in
set_option maxHeartbeats 4000000 in
theorem blocks_any (a b c : Int) (p m : ByteArray) (w : World) (ha : In64 a) (hb : In64 b) (hc : In64 c) :
    Calls Tryd.prog 112 #[.agg (plainC a b c p m)] w fun e w' => ∃ v', e = .returned v' ∧ OwnOf RPt 5 w.heap.size 25 w' v' (blkU 3 a b c) ∧ Below w.heap.size w w' := by
  have HA := Lib.hid ha
  have HB := Lib.hid hb
  have HC := Lib.hid hc
  clear ha hb hc
  obtain ⟨i0, hi, hz0, hz1, hz2⟩ := info_parts Tryd.infoVr
  go_enter Tryd.func112, Tryd.ntmps112
  go_wp2_with fail
  go_loopw [3, 4] (fun v i wr => ∃ k : Nat, k ≤ 3 ∧ i = .int .i64 ((k : Int) + 1) ∧ Hid (OwnOf RPt 5 (w.heap.size + 1) 25 wr v (blkU k a b c)) ∧ Hid (PlainAt wr w.heap.size (plainC a b c p m)) ∧ Below w.heap.size w wr) (fun _ i _ => 4 - (intOf i).toNat)
  case atStart => exact ⟨0, by omega, rfl, OwnOf.nil _ _ _ _ _, plainAt_last _ _ _ rfl, (Below.refl _ _).alloc (Nat.le_refl _) _⟩
  case round =>
    obtain ⟨k, hk, rfl, HO, HP, hb⟩ := hrel
    by_cases hk3 : k < 3
    · have e0 : ((k : Int) + 1 ≤ 3) = True := eq_true (by omega)
      have p0 := HP.out.cell 0
      have p1 := HP.out.cell 1
      have p2 := HP.out.cell 2
      have p3 := HP.out.cell 3
      have p4 := HP.out.cell 4
      have HK : Hid (Calls Tryd.prog 121 #[.agg (plainC a b c p m), .int .i64 ((k : Int) + 1)] wr (BlkPost (blkK (k + 1) a b c) wr)) := block_K (k + 1) ⟨by omega, by omega⟩ a b c p m wr HA.out HB.out HC.out
      go_wp2_with fail
      refine HK.out.mono ?_
      rintro e w1 ⟨t, ok, rfl, hb1, hr⟩
      have hst := blkU_step k a b c
      rw [hr] at hst
      have HST := Lib.hid hst
      have HB1 := Lib.hid hb1
      clear hst hr hb1 p0 p1 p2 p3 p4 HK
      obtain ⟨ta, tb, tc⟩ := t
      cases ok with
      | true =>
        have bY := (HB1.out.alloc HB1.out.size (.cells (plainC ta tb tc ⟨#[]⟩ ⟨#[]⟩) 25))
        have bZ := bY.alloc bY.size (.cells (plainC ta tb tc ⟨#[]⟩ ⟨#[]⟩) 25)
        obtain ⟨cs, hcl, hcz, hown2, hR⟩ := HO.out.below RPt.mono bZ
        go_wp2_with (at_builtin; refine stop_here ?_)
        unfold Stop
        refine wpList_append_own _ rfl _ _ 62 rfl _ 25 i0 (.agg #[.int .u64 0, .int .u64 0, .int .u64 0, .string ByteArray.empty, .string ByteArray.empty]) 5 56 Tryd.underlying62 hi hz0 hz1 hz2 rfl (by decide) _ _ _ rfl hown2 ⟨w1.heap.size + 1, 0, none⟩ 1 1 (ptL (ta, tb, tc)) rfl rfl (cells_at _ _ _ _ (by simp)) ?_ ?_ ?_ ?_ ?_
        · intro u hu; unfold ptL at hu; simp at hu; rcases hu with rfl | rfl | rfl | rfl | rfl <;> rfl
        · have := blkU_len k a b c; unfold maxLen; omega
        · have := blkU_len k a b c; omega
        · exact Nat.le_trans HP.out.lt bZ.size
        intro v' w2 hown3 hgrow _
        have hp := Lib.hid (OwnOf.push (RPt.stab (e := 25)) rfl hcl hcz hown2 hR hgrow hown3 rfl (show RPt _ _ (ta, tb, tc) from rfl))
        have HST2 : Hid (blkU (k + 1) a b c = blkU k a b c ++ [(ta, tb, tc)]) := HST.out
        rw [← HST2.out] at hp
        have b2 := Below.grown (hb.trans (bZ.mono hb.size)) hgrow (Nat.le_trans hb.size bZ.size) (fun g hg => by have := (hown2.lt g hg).1; omega)
        have hP2 : Hid (PlainAt w2 w.heap.size (plainC a b c p m)) := by
          have h1 := HP.out.below8 bZ
          exact (hgrow.block _ h1.lt (fun e => by have := (hown2.lt _ e.symm).1; omega)).trans h1
        clear hgrow hown3 hown2 hR hcz hcl bY bZ HST
        go_wp2_with fail
        go_roundw
        case rel => exact ⟨k + 1, by omega, by go_num, hp, hP2, b2⟩
        case measure => simp [intOf]; omega
      | false =>
        have HST2 : Hid (blkU (k + 1) a b c = blkU k a b c) := by show _ = _; rw [HST.out]; simp
        have bY := (HB1.out.alloc HB1.out.size (.cells (plainC ta tb tc ⟨#[]⟩ ⟨#[]⟩) 25))
        have hp := Lib.hid (HO.out.below RPt.mono bY)
        rw [← HST2.out] at hp
        have hP2 := Lib.hid (HP.out.below8 bY)
        have b2 := hb.trans (bY.mono hb.size)
        clear bY HST
        go_wp2_with fail
        go_roundw
        case rel => exact ⟨k + 1, by omega, by go_num, hp, hP2, b2⟩
        case measure => simp [intOf]; omega
    · have e0 : ((k : Int) + 1 ≤ 3) = False := eq_false (by omega)
      obtain rfl : k = 3 := by omega
      go_wp2_with fail
      go_ret
      exact ⟨_, rfl, HO.out.base (by omega), hb⟩
end Go.Proofs.YtdlpcfhhpjjjmaaDoor

namespace Go.Proofs.YtdlpcfhhpjjjmaaDoor
open Go.RowKit
set_option linter.unusedVariables false
set_option linter.unusedSimpArgs false

def In3 (x : Pt) : Prop := In64 x.1 ∧ In64 x.2.1 ∧ In64 x.2.2
theorem blkK_in (k : Nat) (x y : Pt) (hx : In3 x) (h : blkK k x.1 x.2.1 x.2.2 = some y) : In3 y := by
  obtain ⟨h1, h2, h3⟩ := hx
  have z : In64 0 := ⟨by omega, by omega⟩
  have b1 : ∀ y, blk1 x.1 = some y → In3 y := by
    intro y h
    unfold blk1 at h
    split at h
    · cases h; exact ⟨⟨by have := h1.1; show 0 ≤ x.1 + 1; omega, by show x.1 + 1 < 18446744073709551616; omega⟩, z, z⟩
    · cases h
  have b2 : ∀ y, blk2 x.1 x.2.1 = some y → In3 y := by
    intro y h
    unfold blk2 at h
    split at h
    · cases h; exact ⟨h1, ⟨by have := h2.1; show 0 ≤ x.2.1 + 1; omega, by show x.2.1 + 1 < 18446744073709551616; omega⟩, z⟩
    · exact b1 y h
  unfold blkK at h
  split at h
  · exact b1 y h
  · split at h
    · exact b2 y h
    · unfold blk3 at h
      split at h
      · cases h; exact ⟨h1, h2, ⟨by have := h3.1; show 0 ≤ x.2.2 + 1; omega, by show x.2.2 + 1 < 18446744073709551616; omega⟩⟩
      · exact b2 y h
theorem blkU_in (n : Nat) (x y : Pt) (hx : In3 x) (h : y ∈ blkU n x.1 x.2.1 x.2.2) : In3 y := by
  unfold blkU at h
  rw [List.mem_filterMap] at h
  obtain ⟨i, _, hi⟩ := h
  exact blkK_in _ x y hx hi

/-- The points that a term gives. -/
def lowT (t : Tm) : Pt := (t.2.2.1, t.2.2.2.1, t.2.2.2.2.1)
def TmPts (t : Tm) (L : List Pt) : Prop := lowT t ∈ L ∧ ∀ x ∈ blkU 3 (lowT t).1 (lowT t).2.1 (lowT t).2.2, x ∈ L
theorem TmPts.sub {t : Tm} {L L' : List Pt} (h : TmPts t L) (hs : ∀ x ∈ L, x ∈ L') : TmPts t L' := ⟨hs _ h.1, fun x hx => hs _ (h.2 x hx)⟩
def PtR (w : World) (c : List (List Tm)) (k : Nat) (L : List Pt) (v : Value) (wr : World) : Prop :=
  OwnOf RPt 5 w.heap.size 25 wr v L ∧ (0, 0, 0) ∈ L ∧ (∀ x ∈ L, In3 x) ∧ (∀ (j : Nat) (l : List Tm), j < k → c[j]? = some l → ∀ t ∈ l, TmPts t L) ∧ Below w.heap.size w wr
def PtM (w : World) (c : List (List Tm)) (k : Nat) (l : List Tm) (m : Nat) (L : List Pt) (v : Value) (wr : World) : Prop :=
  PtR w c k L v wr ∧ ∀ (j : Nat) (t : Tm), j < m → l[j]? = some t → TmPts t L
theorem PtR.ext {w : World} {c : List (List Tm)} {k : Nat} {L L' : List Pt} {v v' : Value} {wr w' : World} (h : PtR w c k L v wr) (ho : OwnOf RPt 5 w.heap.size 25 w' v' L') (hs : ∀ x ∈ L, x ∈ L') (hi : ∀ x ∈ L', In3 x) (hb : Below w.heap.size w w') : PtR w c k L' v' w' :=
  ⟨ho, hs _ h.2.1, hi, fun j l hj hl t ht => (h.2.2.2.1 j l hj hl t ht).sub hs, hb⟩
theorem PtM.ext {w : World} {c : List (List Tm)} {k : Nat} {l : List Tm} {m : Nat} {L L' : List Pt} {v v' : Value} {wr w' : World} (h : PtM w c k l m L v wr) (ho : OwnOf RPt 5 w.heap.size 25 w' v' L') (hs : ∀ x ∈ L, x ∈ L') (hi : ∀ x ∈ L', In3 x) (hb : Below w.heap.size w w') : PtM w c k l m L' v' w' :=
  ⟨h.1.ext ho hs hi hb, fun j t hj ht => (h.2 j t hj ht).sub hs⟩
theorem PtM.step {w : World} {c : List (List Tm)} {k : Nat} {l : List Tm} {m : Nat} {L : List Pt} {v : Value} {wr : World} {t : Tm} (h : PtM w c k l m L v wr) (ht : l[m]? = some t) (hp : TmPts t L) : PtM w c k l (m + 1) L v wr :=
  ⟨h.1, fun j y hj hy => by
    by_cases e : j < m
    · exact h.2 j y e hy
    · obtain rfl : j = m := by omega
      rw [ht] at hy; cases hy; exact hp⟩
theorem PtM.close {w : World} {c : List (List Tm)} {k : Nat} {l : List Tm} {L : List Pt} {v : Value} {wr : World} (h : PtM w c k l l.length L v wr) (hl : c[k]? = some l) : PtR w c (k + 1) L v wr :=
  ⟨h.1.1, h.1.2.1, h.1.2.2.1, fun j m hj hm t ht => by
    by_cases e : j < k
    · exact h.1.2.2.2.1 j m e hm t ht
    · obtain rfl : j = k := by omega
      rw [hl] at hm; cases hm
      obtain ⟨i, hi⟩ := List.getElem?_of_mem ht
      exact h.2 i t (List.getElem?_eq_some_iff.1 hi).1 hi, h.1.2.2.2.2⟩
/-- Inside the loop over the blocks. -/
def PtI (w : World) (L5 bl : List Pt) (vb : Value) (n : Nat) (L : List Pt) (v : Value) (wi : World) : Prop :=
  OwnOf RPt 5 w.heap.size 25 wi v L ∧ OwnOf RPt 5 0 25 wi vb bl ∧ (∀ g, vb.ownBlock = some g → v.ownBlock ≠ some g) ∧ (∀ x ∈ L5, x ∈ L) ∧ (∀ (j : Nat) (x : Pt), j < n → bl[j]? = some x → x ∈ L) ∧ (∀ x ∈ L, In3 x) ∧ Below w.heap.size w wi
theorem PtI.step {w : World} {L5 bl : List Pt} {vb : Value} {n : Nat} {L L' : List Pt} {v v' : Value} {wi w' : World} {x : Pt} (h : PtI w L5 bl vb n L v wi) (hx : bl[n]? = some x) (ho : OwnOf RPt 5 w.heap.size 25 w' v' L') (hvb : OwnOf RPt 5 0 25 w' vb bl) (hne : ∀ g, vb.ownBlock = some g → v'.ownBlock ≠ some g) (hs : ∀ y ∈ L, y ∈ L') (hm : x ∈ L') (hi : ∀ y ∈ L', In3 y) (hb : Below w.heap.size w w') : PtI w L5 bl vb (n + 1) L' v' w' :=
  ⟨ho, hvb, hne, fun y hy => hs _ (h.2.2.2.1 y hy), fun j y hj hy => by
    by_cases e : j < n
    · exact hs _ (h.2.2.2.2.1 j y e hy)
    · obtain rfl : j = n := by omega
      rw [hx] at hy; cases hy; exact hm, hi, hb⟩
theorem lit_own (w : World) (x : Pt) : OwnOf RPt 5 w.heap.size 25 (w.alloc (.cells (plainC x.1 x.2.1 x.2.2 ⟨#[]⟩ ⟨#[]⟩) 25)) (.slice (some ⟨w.heap.size, 0, none⟩) 1 1) [x] :=
  ⟨[ptL x], rfl, fun us h => by rw [List.mem_singleton] at h; subst h; rfl, World.ownsRow_lit (e := 25) (size := 5) w (plainC x.1 x.2.1 x.2.2 ⟨#[]⟩ ⟨#[]⟩) 1 (Nat.le_refl _) (by unfold maxLen; omega) rfl, fun i y us hi hu => by
    have : i = 0 := by have := (List.getElem?_eq_some_iff.1 hi).1; simp at this; omega
    subst this
    simp at hi hu
    subst hi; subst hu; rfl⟩
theorem lit_own9 (w : World) (n : Nat) (hn : n = w.heap.size) (x : Pt) : OwnOf RPt 5 n 25 (w.alloc (.cells (plainC x.1 x.2.1 x.2.2 ⟨#[]⟩ ⟨#[]⟩) 25)) (.slice (some ⟨n, 0, none⟩) 1 1) [x] := by
  subst hn; exact lit_own w x

set_option maxRecDepth 100000 in
set_option maxHeartbeats 8000000 in
theorem points_any (c : List (List Tm)) (v : Value) (w : World) (hc : Hid (SlOf RTms 1 w v c)) (hn : c.length ≤ 20) (hln : Hid (∀ l ∈ c, l.length ≤ 10 ∧ ∀ t ∈ l, In3 (lowT t))) :
    Calls Tryd.prog 80 #[v] w fun e w' => ∃ v' L, e = .returned v' ∧ PtR w c c.length L v' w' ∧ L.length ≤ 3000 := by
  obtain ⟨ao, cap, rfl, hx⟩ := hc.out
  have HX := Lib.hid hx
  clear hx hc
  go_enter Tryd.func80, Tryd.ntmps80
  go_wp2_with fail
  go_loopw [3, 15] (fun v i wr => ∃ (k : Nat) (L : List Pt), k ≤ c.length ∧ i = .int .i64 k ∧ Hid (PtR w c k L v wr) ∧ L.length ≤ 1 + 130 * k) (fun _ i _ => c.length - (intOf i).toNat)
  case atStart => exact ⟨0, [(0, 0, 0)], Nat.zero_le _, rfl, ⟨lit_own w (0, 0, 0), by simp, fun x hx => by rw [List.mem_singleton] at hx; subst hx; exact ⟨⟨by decide, by decide⟩, ⟨by decide, by decide⟩, ⟨by decide, by decide⟩⟩, fun j l hj => by omega, (Below.refl _ _).alloc (Nat.le_refl _) _⟩, by simp⟩
  case round =>
    obtain ⟨k, L, hk, rfl, HR, hlen⟩ := hrel
    by_cases hkL : k < c.length
    · obtain ⟨l, hl⟩ : ∃ l, c[k]? = some l := ⟨c[k], List.getElem?_eq_getElem hkL⟩
      obtain ⟨ab, aoff, us, rfl, hz, hcell, u, rfl, hu⟩ := HX.out k l hl
      have c0 := cellBS HR.out.2.2.2.2 (hcell 0 u rfl)
      obtain ⟨ao2, cap2, rfl, hx2⟩ := hu
      have HX2 := Lib.hid hx2
      have HL := Lib.hid hl
      have hll := (hln.out l (List.mem_of_getElem? hl)).1
      clear hx2 hcell hl hz
      simp only [Nat.mul_one, Nat.add_zero] at c0
      go_wp2_with fail
      go_loopw [3, 21] (fun v i wi => ∃ (m : Nat) (L : List Pt), m ≤ l.length ∧ i = .int .i64 m ∧ Hid (PtM w c k l m L v wi) ∧ L.length ≤ 1 + 130 * k + 13 * m) (fun _ i _ => l.length - (intOf i).toNat)
      case atStart => exact ⟨0, L, Nat.zero_le _, rfl, ⟨HR.out, fun j t hj => by omega⟩, by omega⟩
      case round =>
        obtain ⟨m, L2, hm, rfl, HM, hlen2⟩ := hrel
        by_cases hmL : m < l.length
        · obtain ⟨t, ht⟩ : ∃ t, l[m]? = some t := ⟨l[m], List.getElem?_eq_getElem hmL⟩
          obtain ⟨ab2, aoff2, us2, rfl, hz2, hcell2, hu2⟩ := HX2.out m t ht
          have HT := Lib.hid ht
          have hI := (hln.out l (List.mem_of_getElem? HL.out)).2 t (List.mem_of_getElem? ht)
          obtain ⟨o, g, a, b, d, p⟩ := t
          unfold RTm at hu2
          subst hu2
          have bw := HM.out.1.2.2.2.2
          have k0 := cellBS bw (hcell2 0 _ rfl)
          have k1 := cellBS bw (hcell2 1 _ rfl)
          have k2 := cellBS bw (hcell2 2 _ rfl)
          have k3 := cellBS bw (hcell2 3 _ rfl)
          have k4 := cellBS bw (hcell2 4 _ rfl)
          have k5 := cellBS bw (hcell2 5 _ rfl)
          simp only [Nat.add_zero] at k0
          have HI : Hid (In64 a ∧ In64 b ∧ In64 d) := hI
          clear hcell2 hz2 ht hI bw
          go_wp2_with fail
          refine (least_im _ _ _ _ _ _ _).mono ?_
          rintro e w1 ⟨rfl, hb1⟩
          have bA := Lib.hid (((Below.refl wr.heap.size wr).alloc (Nat.le_refl _) _).trans (hb1.mono (by simp)))
          clear hb1
          go_wp2_with fail
          refine (bare_im _ _ _ _ _ _).mono ?_
          rintro e w2 ⟨rfl, hb2⟩
          have bB := Lib.hid (bA.out.trans (hb2.mono bA.out.size))
          clear hb2 bA
          have hP3 : Hid (PlainAt (w2.alloc (.cells (plainC a b d ⟨#[]⟩ ⟨#[]⟩) 25)) w2.heap.size (plainC a b d ⟨#[]⟩ ⟨#[]⟩)) := plainAt_last _ _ _ rfl
          have bC := Lib.hid (bB.out.alloc bB.out.size (.cells (plainC a b d ⟨#[]⟩ ⟨#[]⟩) 25))
          have HLit := Lib.hid (lit_own9 (w2.alloc (.cells (plainC a b d ⟨#[]⟩ ⟨#[]⟩) 25)) (w2.heap.size + 1) (by simp) (a, b, d))
          have bD := Lib.hid (bC.out.alloc bC.out.size (.cells (plainC a b d ⟨#[]⟩ ⟨#[]⟩) 25))
          have HOw := Lib.hid (HM.out.1.1.below RPt.mono bD.out)
          have hlt := HM.out.1.1.lt9
          obtain ⟨ao3, cap3, rfl⟩ := HM.out.1.1.sl.len
          have hl100 : L2.length ≤ 100000 := by omega
          go_wp2_with fail
          refine (once_any w.heap.size L2 [(a, b, d)] _ _ _ HOw (HLit.out.base (Nat.zero_le _)) (fun g hg e => ?_) (Nat.le_trans HM.out.1.2.2.2.2.size bD.out.size) hl100 (by simp)).mono ?_
          · have h1 := (hlt g e).2
            cases hg
            have h2 := bB.out.size
            simp at h1
            omega
          rintro e w5 ⟨v5, L5, rfl, ho5, hs5, hm5, hsub5, hlen5, hk5, hv5⟩
          have HP5 : Hid (PlainAt w5 w2.heap.size (plainC a b d ⟨#[]⟩ ⟨#[]⟩)) := by
            have h1 := hP3.out.below8 ((Below.refl _ _).alloc (Nat.le_refl _) (.cells (plainC a b d ⟨#[]⟩ ⟨#[]⟩) 25))
            refine (hk5.2.2.2.2 _ h1.lt (fun e => ?_)).trans h1
            have := (hlt _ e).2
            have := bB.out.size
            omega
          have hrow : Hid (∀ g, v5.ownBlock = some g → w.heap.size ≤ g ∧ g < w5.heap.size) := fun g hg => ho5.lt9 g hg
          have bw5 := Lib.hid (HM.out.1.2.2.2.2.trans ((bD.out.mono HM.out.1.2.2.2.2.size).trans (hk5.below (Nat.le_trans HM.out.1.2.2.2.2.size bD.out.size) (fun g hg => (hlt g hg).1))))
          have HIn5 : Hid (∀ x ∈ L5, In3 x) := fun x hx => by
            rcases hsub5 x hx with h | h
            · exact HM.out.1.2.2.1 x h
            · rw [List.mem_singleton] at h; subst h; exact HI.out
          have HS5 := Lib.hid (And.intro hs5 (hm5 (a, b, d) (by simp)))
          have HO5 := Lib.hid ho5
          have hlen6 : L5.length ≤ 1 + 130 * k + 13 * m + 1 := by simp at hlen5; omega
          obtain ⟨ao5, cap5, rfl⟩ := ho5.sl.len
          clear ho5 hs5 hm5 hsub5 hlen5 hk5 hv5 hlt HOw bD HLit bC hP3 hl100
          have q0 := HP5.out.cell 0
          have q1 := HP5.out.cell 1
          have q2 := HP5.out.cell 2
          have q3 := HP5.out.cell 3
          have q4 := HP5.out.cell 4
          go_wp2_with fail
          refine (blocks_any a b d _ _ _ HI.out.1 HI.out.2.1 HI.out.2.2).mono ?_
          rintro e w6 ⟨vb, rfl, hob, hb6⟩
          obtain ⟨bl, hbl⟩ : ∃ bl, bl = blkU 3 a b d := ⟨_, rfl⟩
          rw [← hbl] at hob
          have HBL := Lib.hid hbl
          have hbln : bl.length ≤ 3 := by rw [hbl]; exact blkU_len 3 a b d
          have hvb := Lib.hid hob.lt9
          obtain ⟨aob, capb, rfl⟩ := hob.sl.len
          have HI6 : Hid (PtI w L5 bl _ 0 L5 _ w6) := ⟨HO5.out.below RPt.mono hb6, hob.base (Nat.zero_le _), fun g hg e => by have h1 := (hvb.out g hg).1; have h2 := (hrow.out g e).2; omega, fun _ h => h, fun j x hj => by omega, HIn5.out, bw5.out.trans (hb6.mono bw5.out.size)⟩
          clear hob hb6 hbl hvb hrow bw5 HP5 HO5 q0 q1 q2 q3 q4 k0 k1 k2 k3 k4 k5 c0
          go_wp2_with fail
          go_loopw [3, 35] (fun v i wi => ∃ (n : Nat) (L : List Pt), n ≤ bl.length ∧ i = .int .i64 n ∧ Hid (PtI w L5 bl (.slice aob bl.length capb) n L v wi) ∧ L.length ≤ 1 + 130 * k + 13 * m + 1 + 4 * n) (fun _ i _ => bl.length - (intOf i).toNat)
          case atStart => exact ⟨0, L5, Nat.zero_le _, rfl, HI6, by omega⟩
          case round =>
            obtain ⟨n, L7, hnb, rfl, HN, hlen7⟩ := hrel
            by_cases hnL : n < bl.length
            · obtain ⟨x, hx⟩ : ∃ x, bl[n]? = some x := ⟨bl[n], List.getElem?_eq_getElem hnL⟩
              obtain ⟨ao8, cap8, e8, hx8⟩ := HN.out.2.1.sl
              simp only [Value.slice.injEq, true_and] at e8
              obtain ⟨rfl, rfl⟩ := e8
              obtain ⟨b8, off8, us8, rfl, hz8, hcell8, hu8⟩ := hx8 n x hx
              have HXn := Lib.hid hx
              have HInx : Hid (In3 x) := blkU_in 3 (a, b, d) x ⟨HI.out.1, HI.out.2.1, HI.out.2.2⟩ (by show x ∈ blkU 3 a b d; rw [← HBL.out]; exact List.mem_of_getElem? hx)
              obtain ⟨xa, xb, xc⟩ := x
              unfold RPt ptL at hu8
              subst hu8
              have q0 := hcell8 0 _ rfl
              have q1 := hcell8 1 _ rfl
              have q2 := hcell8 2 _ rfl
              have q3 := hcell8 3 _ rfl
              have q4 := hcell8 4 _ rfl
              simp only [Nat.add_zero] at q0
              clear hcell8 hx8 hz8 hx
              obtain ⟨ao9, cap9, rfl⟩ := HN.out.1.sl.len
              have hrow := Lib.hid HN.out.1.lt9
              have hvbr := Lib.hid HN.out.2.1.lt9
              have bX := Lib.hid ((Below.refl wr.heap.size wr).alloc (Nat.le_refl _) (.cells (plainC xa xb xc ⟨#[]⟩ ⟨#[]⟩) 25))
              have HOw := Lib.hid (HN.out.1.below RPt.mono bX.out)
              have HVb := Lib.hid (HN.out.2.1.below RPt.mono bX.out)
              have HPx := Lib.hid (plainAt_last wr (plainC xa xb xc ⟨#[]⟩ ⟨#[]⟩) _ rfl)
              have HBw := Lib.hid (HN.out.2.2.2.2.2.2.trans (bX.out.mono HN.out.2.2.2.2.2.2.size))
              have hws := Lib.hid HN.out.2.2.2.2.2.2.size
              go_wp2_with fail
              refine wp_named ?_
              intro W1 hW1
              rw [hW1] at HOw HVb HPx HBw
              have hs1 : Hid (W1.heap.size = wr.heap.size + 1) := by rw [← hW1]; show _ = _; simp
              clear hW1 bX q0 q1 q2 q3 q4
              refine wp_region_held_drew (S := fun w' => Hid (PlainAt w' wr.heap.size (plainC xa xb xc ⟨#[]⟩ ⟨#[]⟩) ∧ Below w.heap.size w w')) (by kernel_rfl) ?_ (fun hHeld => ?_)
              · exact ⟨HPx.out, HBw.out.drew⟩
              refine wpAnyH_take (i := 0) (v := ?_) rfl (by kernel_rfl) (by kernel_rfl) (by kernel_rfl) (fun _ _ _ h => h) (Or.inl ⟨by rfl, ?_⟩) (by assumption) ?_
              rotate_left
              · (intro w hSw; go_simp; (try with_reducible rfl))
              (try simp only [Act.put, List.getElem_toArray, List.getElem_cons_zero, List.getElem_cons_succ, List.setIfInBounds_toArray, List.set_cons_zero, List.set_cons_succ])
              refine wpAnyH_take (i := 1) (v := ?_) rfl (by kernel_rfl) (by kernel_rfl) (by kernel_rfl) (fun _ _ _ h => h) (Or.inl ⟨by rfl, ?_⟩) (by assumption) ?_
              rotate_left
              · (intro w hSw; have k0 := hSw.out.1.cell 0; have k1 := hSw.out.1.cell 1; have k2 := hSw.out.1.cell 2; have k3 := hSw.out.1.cell 3; have k4 := hSw.out.1.cell 4; go_simp; (try with_reducible rfl))
              (try simp only [Act.put, List.getElem_toArray, List.getElem_cons_zero, List.getElem_cons_succ, List.setIfInBounds_toArray, List.set_cons_zero, List.set_cons_succ])
              refine wpAnyH_take (i := 4) (v := ?_) rfl (by kernel_rfl) (by kernel_rfl) (by kernel_rfl) (fun _ _ _ h => h) (Or.inl ⟨by rfl, ?_⟩) (by assumption) ?_
              rotate_left
              · (intro w hSw; have k0 := hSw.out.1.cell 0; have k1 := hSw.out.1.cell 1; have k2 := hSw.out.1.cell 2; have k3 := hSw.out.1.cell 3; have k4 := hSw.out.1.cell 4; go_simp; (try with_reducible rfl))
              (try simp only [Act.put, List.getElem_toArray, List.getElem_cons_zero, List.getElem_cons_succ, List.setIfInBounds_toArray, List.set_cons_zero, List.set_cons_succ])
              refine wpAnyH_ready (rs := [2]) (by kernel_rfl) (by simp) ?_
              refine AllReadyH.cons rfl (fun K hK => ?_) AllReadyH.nil
              go_simp
              have bL := Lib.hid ((Below.refl W1.heap.size W1).alloc (Nat.le_refl _) (.cells (plainC xa xb xc ⟨#[]⟩ ⟨#[]⟩) 25))
              have HLit := Lib.hid (lit_own W1 (xa, xb, xc))
              have HH : Hid (PlainAt (W1.alloc (.cells (plainC xa xb xc ⟨#[]⟩ ⟨#[]⟩) 25)).drew wr.heap.size (plainC xa xb xc ⟨#[]⟩ ⟨#[]⟩) ∧ Below w.heap.size w (W1.alloc (.cells (plainC xa xb xc ⟨#[]⟩ ⟨#[]⟩) 25)).drew) := ⟨HPx.out.below8 bL.out.drew, (HBw.out.trans (bL.out.mono HBw.out.size)).drew⟩
              have HOw2 := Lib.hid (HOw.out.below RPt.mono bL.out)
              have HVb2 := Lib.hid (HVb.out.below RPt.mono bL.out)
              refine hK.out _ _ HH (fun hH2 => ?_)
              clear hK K hHeld hH2
              have hHeld := HH
              clear HH
              (try simp only [Act.put, List.getElem_toArray, List.getElem_cons_zero, List.getElem_cons_succ, List.setIfInBounds_toArray, List.set_cons_zero, List.set_cons_succ])
              refine wpAnyH_ready (rs := [3]) (by kernel_rfl) (by simp) ?_
              refine AllReadyH.cons rfl (fun K hK => ?_) AllReadyH.nil
              go_simp
              go_at_call 111
              have hl100 : L7.length ≤ 100000 := by omega
              have hszL : Hid ((W1.alloc (.cells (plainC xa xb xc ⟨#[]⟩ ⟨#[]⟩) 25)).drew.heap.size = wr.heap.size + 2) := by show _ = _; have := hs1.out; simp; omega
              refine (once_any w.heap.size L7 [(xa, xb, xc)] _ _ _ (show Hid (OwnOf RPt 5 w.heap.size 25 (W1.alloc (.cells (plainC xa xb xc ⟨#[]⟩ ⟨#[]⟩) 25)).drew _ _) from HOw2.out) (show Hid (OwnOf RPt 5 0 25 (W1.alloc (.cells (plainC xa xb xc ⟨#[]⟩ ⟨#[]⟩) 25)).drew _ _) from HLit.out.base (Nat.zero_le _)) (fun g hg e => ?_) ?_ hl100 (by simp)).mono ?_
              · have h1 := (hrow.out g e).2
                have h2 := hs1.out
                simp [Value.ownBlock] at hg
                omega
              · have := hs1.out; have := hws.out; have := hszL.out; omega
              rintro e w3 ⟨v3, L8, rfl, ho3, hs3, hm3, hsub3, hlen3, hk3, hv3⟩
              have hP3 : PlainAt w3 wr.heap.size (plainC xa xb xc ⟨#[]⟩ ⟨#[]⟩) := by
                refine (hk3.2.2.2.2 _ hHeld.out.1.lt (fun e => ?_)).trans hHeld.out.1
                have := (hrow.out _ e).2
                omega
              have hb3 := hk3.below (B := w.heap.size) (by have := hs1.out; have := hws.out; have := hszL.out; omega) (fun g hg => (hrow.out g hg).1)
              have HH : Hid (PlainAt w3 wr.heap.size (plainC xa xb xc ⟨#[]⟩ ⟨#[]⟩) ∧ Below w.heap.size w w3) := ⟨hP3, hHeld.out.2.trans hb3⟩
              have HVb3 := Lib.hid (OwnOf.kb (R := RPt) (w := (W1.alloc (.cells (plainC xa xb xc ⟨#[]⟩ ⟨#[]⟩) 25)).drew) (w' := w3) (fun _ _ h => h) (show OwnOf RPt 5 0 25 (W1.alloc (.cells (plainC xa xb xc ⟨#[]⟩ ⟨#[]⟩) 25)).drew _ bl from HVb2.out) hk3 (fun g hg => HN.out.2.2.1 g hg))
              have hne3 : Hid (∀ g, (Value.slice (some ⟨b8, off8, none⟩) bl.length capb).ownBlock = some g → v3.ownBlock ≠ some g) := fun g hg e => by
                rcases hv3 with h | h
                · exact HN.out.2.2.1 g hg (h ▸ e)
                · have h1 := h g e; have h2 := (hvbr.out g hg).2; have := hszL.out; omega
              have hrow3 := Lib.hid ho3.lt9
              have HO3 := Lib.hid ho3
              have HS3 := Lib.hid (And.intro hs3 (And.intro (hm3 (xa, xb, xc) (by simp)) (show ∀ y ∈ L8, In3 y from fun y hy => by
                rcases hsub3 y hy with h | h
                · exact HN.out.2.2.2.2.2.1 y h
                · rw [List.mem_singleton] at h; subst h; exact HInx.out)))
              have hlen8 : L8.length ≤ L7.length + 1 := by simpa using hlen3
              have hws3 := Lib.hid HH.out.2.size
              have hpn : Hid (v3.ownBlock ≠ some wr.heap.size) := fun e => by
                rcases hv3 with h | h
                · have := (hrow.out _ (h ▸ e)).2; omega
                · have := h _ e; have := hszL.out; omega
              have hsz3 : Hid (wr.heap.size ≤ w3.heap.size) := Nat.le_of_lt hP3.lt
              obtain ⟨ao3, cap3, rfl⟩ := ho3.sl.len
              clear ho3 hs3 hm3 hsub3 hlen3 hk3 hv3 hP3 hb3 HOw2 HVb2 HLit bL
              refine hK.out _ _ HH (fun hH2 => ?_)
              clear hK K hHeld hH2
              have hHeld := HH
              clear HH
              (try simp only [Act.put, List.getElem_toArray, List.getElem_cons_zero, List.getElem_cons_succ, List.setIfInBounds_toArray, List.set_cons_zero, List.set_cons_succ])
              refine wpAnyH_ready (rs := [5]) (by kernel_rfl) (by simp) ?_
              refine AllReadyH.cons rfl (fun K hK => ?_) AllReadyH.nil
              go_simp
              go_at_call 112
              refine (blocks_any xa xb xc _ _ _ HInx.out.1 HInx.out.2.1 HInx.out.2.2).mono ?_
              rintro e w4 ⟨vc, rfl, hoc, hb4⟩
              have HH : Hid (PlainAt w4 wr.heap.size (plainC xa xb xc ⟨#[]⟩ ⟨#[]⟩) ∧ Below w.heap.size w w4) := ⟨hHeld.out.1.below8 hb4, hHeld.out.2.trans (hb4.mono hHeld.out.2.size)⟩
              have HVb4 := Lib.hid (HVb3.out.below RPt.mono hb4)
              have HO4 := Lib.hid (HO3.out.below RPt.mono hb4)
              have hvc := Lib.hid hoc.lt9
              have HOc := Lib.hid hoc
              have hs4 := Lib.hid hb4.size
              have hbl4 : (blkU 3 xa xb xc).length ≤ 3 := blkU_len 3 xa xb xc
              obtain ⟨ao4, cap4, rfl⟩ := hoc.sl.len
              clear hoc hb4 HVb3 HO3
              refine hK.out _ _ HH (fun hH2 => ?_)
              clear hK K hHeld hH2
              have hHeld := HH
              clear HH
              (try simp only [Act.put, List.getElem_toArray, List.getElem_cons_zero, List.getElem_cons_succ, List.setIfInBounds_toArray, List.set_cons_zero, List.set_cons_succ])
              refine wpAnyH_ready (rs := [6]) (by kernel_rfl) (by simp) ?_
              refine AllReadyH.cons rfl (fun K hK => ?_) AllReadyH.nil
              go_simp
              go_at_call 111
              have hl100 : L8.length ≤ 100000 := by omega
              refine (once_any w.heap.size L8 (blkU 3 xa xb xc) _ _ _ HO4 (HOc.out.base (Nat.zero_le _)) (fun g hg e => ?_) (Nat.le_trans hws3.out hs4.out) hl100 (by omega)).mono ?_
              · have h1 := (hrow3.out g e).2
                have h2 := (hvc.out g hg).1
                omega
              rintro e w5 ⟨v5, L9, rfl, ho5, hs5, hm5, hsub5, hlen5, hk5, hv5⟩
              have hb5 := hk5.below (B := w.heap.size) (Nat.le_trans hws3.out hs4.out) (fun g hg => (hrow3.out g hg).1)
              have hP5 : PlainAt w5 wr.heap.size (plainC xa xb xc ⟨#[]⟩ ⟨#[]⟩) := by
                refine (hk5.2.2.2.2 _ hHeld.out.1.lt (fun e => hpn.out ?_)).trans hHeld.out.1
                exact e
              have HH : Hid (PlainAt w5 wr.heap.size (plainC xa xb xc ⟨#[]⟩ ⟨#[]⟩) ∧ Below w.heap.size w w5) := ⟨hP5, hHeld.out.2.trans hb5⟩
              have HVb5 := OwnOf.kb (R := RPt) (w := w4) (w' := w5) (fun _ _ h => h) HVb4.out hk5 (fun g hg => hne3.out g hg)
              have hne5 : ∀ g, (Value.slice (some ⟨b8, off8, none⟩) bl.length capb).ownBlock = some g → v5.ownBlock ≠ some g := fun g hg e => by
                rcases hv5 with h | h
                · exact hne3.out g hg (h ▸ e)
                · have h1 := h g e; have h2 := (hvbr.out g hg).2; have h3 := hs4.out; have h4 := hsz3.out; omega
              have HF := Lib.hid (HN.out.step HXn.out ho5 HVb5 hne5 (fun y hy => hs5 _ (HS3.out.1 y hy)) (hs5 _ HS3.out.2.1) (fun y hy => by
                rcases hsub5 y hy with h | h
                · exact HS3.out.2.2 y h
                · exact blkU_in 3 (xa, xb, xc) y HInx.out h) HH.out.2)
              have hlen9 : L9.length ≤ L7.length + 4 := by omega
              obtain ⟨ao5, cap5, rfl⟩ := ho5.sl.len
              clear ho5 hs5 hm5 hsub5 hlen5 hk5 hv5 hb5 hP5 HVb5 hne5
              refine hK.out _ _ HH (fun hH2 => ?_)
              clear hK K hHeld hH2
              have hHeld := HH
              clear HH
              (try simp only [Act.put, List.getElem_toArray, List.getElem_cons_zero, List.getElem_cons_succ, List.setIfInBounds_toArray, List.set_cons_zero, List.set_cons_succ])
              refine wpAnyH_ready (rs := [7]) (by kernel_rfl) (by simp) ?_
              refine AllReadyH.cons rfl (fun K hK => ?_) AllReadyH.nil
              go_simp
              refine hK.out _ _ hHeld (fun hH2 => ?_)
              clear hK K hH2
              (try simp only [Act.put, List.getElem_toArray, List.getElem_cons_zero, List.getElem_cons_succ, List.setIfInBounds_toArray, List.set_cons_zero, List.set_cons_succ])
              refine wpAnyH_done (by kernel_rfl) ?_ _
              go_wp2_with fail
              go_roundw
              case rel => exact ⟨n + 1, L9, by omega, by go_num, HF, by omega⟩
              case measure => simp [intOf]; omega
            · obtain rfl : n = bl.length := by omega
              have HF : Hid (PtM w c k l (m + 1) L7 _ wr) := (HM.out.ext HN.out.1 (fun x hx => HN.out.2.2.2.1 _ (HS5.out.1 x hx)) HN.out.2.2.2.2.2.1 HN.out.2.2.2.2.2.2).step HT.out ⟨HN.out.2.2.2.1 _ HS5.out.2, fun x hx => by
                have : x ∈ bl := by rw [HBL.out]; exact hx
                obtain ⟨j, hj⟩ := List.getElem?_of_mem this
                exact HN.out.2.2.2.2.1 j x (List.getElem?_eq_some_iff.1 hj).1 hj⟩
              go_wp2_with fail
              go_roundw
              case rel => exact ⟨m + 1, L7, by omega, by go_num, HF, by omega⟩
              case measure => simp [intOf]; omega
        · obtain rfl : m = l.length := by omega
          have HC := Lib.hid (HM.out.close HL.out)
          go_wp2_with fail
          go_roundw
          case rel => exact ⟨k + 1, L2, by omega, by go_num, HC, by omega⟩
          case measure => simp [intOf]; omega
    · obtain rfl : k = c.length := by omega
      go_wp2_with fail
      go_ret
      exact ⟨_, L, rfl, HR.out, by omega⟩
end Go.Proofs.YtdlpcfhhpjjjmaaDoor
