/- Small functions of pub/gotime over times without a monotonic reading and without a place. -/
import Derived.Test.YtpgclepiagfgfaaWk
import Derived.Test.YtpgclepiagfgfaaPCal
import Derived.WalkSmall
namespace Go.Proofs.Ytpgclepiagfgfaa
open Go.RowKit
set_option linter.unusedVariables false
set_option linter.unusedSimpArgs false

theorem wp_named {P : Program} {c : Code} {Q : Exit → Act → World → Prop} {a : Act} {W : World} (h : ∀ W1, W = W1 → Code.wp P c Q a W1) : Code.wp P c Q a W := h W rfl
/-- A row of cells at block g. -/
def RowAt (w : World) (g : Nat) (t : TypeId) (cs : Array Value) : Prop := w.heap[g]? = some (.cells cs t (0, 0))
theorem RowAt.lt {w : World} {g : Nat} {t : TypeId} {cs : Array Value} (h : RowAt w g t cs) : g < w.heap.size := (Array.getElem?_eq_some_iff.1 h).1
theorem RowAt.cell {w : World} {g : Nat} {t : TypeId} {cs : Array Value} (h : RowAt w g t cs) (i : Nat) : w.cell? ⟨g, i, none⟩ = cs[i]? := cell_of_row w g i cs _ (0, 0) h
theorem RowAt.free {w : World} {g : Nat} {t : TypeId} {cs : Array Value} (h : RowAt w g t cs) (i : Nat) : w.frozen? ⟨g, i, none⟩ = false := by simp [World.frozen?, show w.heap[g]? = _ from h]
theorem rowAt_last (W : World) (t : TypeId) (cs : Array Value) (n : Nat) (hn : n = W.heap.size) : RowAt (W.alloc (.cells cs t)) n t cs := by subst hn; exact heap_alloc_new W _
theorem RowAt.alloc {W : World} {g : Nat} {t : TypeId} {cs : Array Value} (h : RowAt W g t cs) (o : Obj) : RowAt (W.alloc o) g t cs := (Below.heap_alloc W o g h.lt).trans h
theorem RowAt.drew {W : World} {g : Nat} {t : TypeId} {cs : Array Value} (h : RowAt W g t cs) : RowAt W.drew g t cs := h
theorem RowAt.below {w w' : World} {g : Nat} {t : TypeId} {cs : Array Value} (h : RowAt w g t cs) (hb : Below w.heap.size w w') : RowAt w' g t cs := (hb.block g h.lt).trans h

/-- A time: ns nanoseconds of a second, the second ext since the first of year 1, UTC. -/
abbrev TmAt (w : World) (g : Nat) (ns : Nat) (ext : Int) : Prop := RowAt w g 68 #[.int .u64 ns, .int .i64 ext, .pointer none]
abbrev UtcAt (w : World) (g : Nat) : Prop := RowAt w g 124 #[.bool true, .string ⟨#[85, 84, 67]⟩, .slice none 0 0, .slice none 0 0, .string ⟨#[]⟩, .int .i64 0, .int .i64 0, .pointer none]

theorem and_hi (ns : Nat) (h : ns < 9223372036854775808) : bits .and .u64 (ns : Int) 9223372036854775808 = 0 := by
  rw [show (9223372036854775808 : Int) = ((2 ^ 63 : Nat) : Int) from rfl, u64_and_nat ns (2 ^ 63) (by omega) (by decide)]
  have : ns &&& 2 ^ 63 = 0 := by
    apply Nat.eq_of_testBit_eq; intro i; rw [Nat.testBit_and, Nat.testBit_two_pow]; by_cases hi : 63 = i
    · subst hi; rw [Nat.testBit_lt_two_pow (by simpa using h)]; simp
    · simp [hi]
  rw [this]; rfl
theorem and_lo (ns : Nat) (h : ns < 1073741824) : bits .and .u64 (ns : Int) 1073741823 = ns := by
  rw [show (1073741823 : Int) = ((2 ^ 30 - 1 : Nat) : Int) from rfl, u64_and_nat ns (2 ^ 30 - 1) (by omega) (by decide), Nat.and_two_pow_sub_one_eq_mod]
  rw [Nat.mod_eq_of_lt (by simpa using h)]

set_option maxHeartbeats 400000 in
theorem sec_any (g ns : Nat) (ext : Int) (hn : ns < 1000000000) (w : World) (h : TmAt w g ns ext) :
    Calls Try.prog 93 #[.pointer (some ⟨g, 0, none⟩)] w fun e w' => e = .returned (.int .i64 ext) ∧ w = w' := by
  have c0 : w.cell? ⟨g, 0, none⟩ = some (.int .u64 ns) := h.cell 0
  have c1 : w.cell? ⟨g, 1, none⟩ = some (.int .i64 ext) := h.cell 1
  have c2 : w.cell? ⟨g, 2, none⟩ = some (.pointer none) := h.cell 2
  have A := and_hi ns (by omega)
  clear h
  go_enter Try.func93, Try.ntmps93
  go_wp2_with fail
  go_ret
  exact ⟨rfl, rfl⟩

set_option maxHeartbeats 400000 in
theorem nsec_any (g ns : Nat) (ext : Int) (hn : ns < 1000000000) (w : World) (h : TmAt w g ns ext) :
    Calls Try.prog 89 #[.pointer (some ⟨g, 0, none⟩)] w fun e w' => e = .returned (.int .i32 ns) ∧ w = w' := by
  have c0 : w.cell? ⟨g, 0, none⟩ = some (.int .u64 ns) := h.cell 0
  have c1 : w.cell? ⟨g, 1, none⟩ = some (.int .i64 ext) := h.cell 1
  have c2 : w.cell? ⟨g, 2, none⟩ = some (.pointer none) := h.cell 2
  have A := and_lo ns (by omega)
  clear h
  go_enter Try.func89, Try.ntmps89
  go_wp2_with fail
  go_ret
  exact ⟨rfl, rfl⟩

set_option maxHeartbeats 400000 in
theorem unixSec_any (g ns : Nat) (ext : Int) (hn : ns < 1000000000) (he : 0 ≤ ext) (he2 : ext < 1000000000000) (w : World) (h : TmAt w g ns ext) :
    Calls Try.prog 88 #[.pointer (some ⟨g, 0, none⟩)] w fun e w' => e = .returned (.int .i64 (ext - 62135596800)) ∧ w = w' := by
  go_enter Try.func88, Try.ntmps88
  go_wp2_with (refine (sec_any g ns ext hn w h).mono ?_; rintro e w' ⟨rfl, rfl⟩)
  go_ret
  exact ⟨ret_i64 (by omega), rfl⟩

set_option maxHeartbeats 400000 in
theorem stripMono_any (g ns : Nat) (ext : Int) (hn : ns < 1000000000) (w : World) (h : TmAt w g ns ext) :
    Calls Try.prog 87 #[.pointer (some ⟨g, 0, none⟩)] w fun e w' => e = .returned (.tuple #[]) ∧ w = w' := by
  have c0 : w.cell? ⟨g, 0, none⟩ = some (.int .u64 ns) := h.cell 0
  have c1 : w.cell? ⟨g, 1, none⟩ = some (.int .i64 ext) := h.cell 1
  have c2 : w.cell? ⟨g, 2, none⟩ = some (.pointer none) := h.cell 2
  have A := and_hi ns (by omega)
  clear h
  go_enter Try.func87, Try.ntmps87
  go_wp2_with fail
  go_end0
  exact ⟨rfl, rfl⟩

set_option maxHeartbeats 400000 in
theorem utc_any (w : World) :
    Calls Try.prog 54 #[] w fun e w' => e = .returned (.pointer (some ⟨w.heap.size, 0, none⟩)) ∧ w' = w.alloc (.cells #[.bool true, .string ⟨#[85, 84, 67]⟩, .slice none 0 0, .slice none 0 0, .string ⟨#[]⟩, .int .i64 0, .int .i64 0, .pointer none] 124) := by
  go_enter Try.func54, Try.ntmps54
  go_wp2_with fail
  go_ret
  exact ⟨rfl, rfl⟩

set_option maxHeartbeats 400000 in
theorem getNil_any (w : World) :
    Calls Try.prog 90 #[.pointer none] w fun e w' => e = .returned (.pointer (some ⟨w.heap.size, 0, none⟩)) ∧ w' = w.alloc (.cells #[.bool true, .string ⟨#[85, 84, 67]⟩, .slice none 0 0, .slice none 0 0, .string ⟨#[]⟩, .int .i64 0, .int .i64 0, .pointer none] 124) := by
  go_enter Try.func90, Try.ntmps90
  go_wp2_with (refine (utc_any _).mono ?_; rintro e w' ⟨rfl, rfl⟩)
  go_ret
  exact ⟨rfl, rfl⟩

set_option maxHeartbeats 400000 in
theorem getSome_any (a : Addr) (w : World) :
    Calls Try.prog 90 #[.pointer (some a)] w fun e w' => e = .returned (.pointer (some a)) ∧ w = w' := by
  go_enter Try.func90, Try.ntmps90
  go_wp2_with fail
  go_ret
  exact ⟨rfl, rfl⟩

end Go.Proofs.Ytpgclepiagfgfaa
