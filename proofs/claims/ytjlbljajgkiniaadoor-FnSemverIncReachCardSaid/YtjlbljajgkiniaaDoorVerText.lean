/- Version.String of a version by value: its text. -/
import Derived.Test.YtjlbljajgkiniaaDoorFmtUint
namespace Go.Proofs.YtjlbljajgkiniaaDoor
open Go.RowKit
set_option linter.unusedVariables false
set_option linter.unusedSimpArgs false

theorem tab10_grown {w w' : World} (h : Tab10 w) (hb : Below w.heap.size w w') : Tab10 w' := by
  have hgn : Tryd.prog.globalNamed "internal/strconv.uint64pow10" = some 0 := by kernel_rfl
  unfold Tab10 Lib.TabIs World.var? at *
  rw [hgn] at h ⊢
  simp only [Option.bind_some] at h ⊢
  have hlt : 0 < w.heap.size := by
    rcases Nat.lt_or_ge 0 w.heap.size with h' | h'
    · exact h'
    · rw [Array.getElem?_eq_none h'] at h; cases h
  rw [hb.block 0 hlt]
  exact h
theorem tabBelow {w w' : World} (h : Hid (Tab10 w)) (hb : Below w.heap.size w w') : Hid (Tab10 w') := tab10_grown h hb

/-- The decimal text of a number. -/
def decB (x : Int) : ByteArray := ⟨(Lib.decDigits x.toNat).toArray⟩
theorem decB_size (x : Int) (h0 : 0 ≤ x) (h1 : x < 18446744073709551616) : (decB x).size ≤ 20 := by
  have e : (decB x).size = Lib.nDigits x.toNat := by
    show (Lib.decDigits x.toNat).toArray.size = _
    simp [Lib.decDigits_length]
  rw [e]
  by_cases h : 1 ≤ x.toNat
  · have := Lib.numDigits_eq x.toNat h (by omega); split at this <;> omega
  · rw [Lib.nDigits_small (by omega)]; omega

theorem fmtDec_any (x : Int) (h0 : 0 ≤ x) (h1 : x < 18446744073709551616) (w : World) (htab : Hid (Tab10 w)) :
    Calls Tryd.prog 44 #[.int .u64 x, .int .i64 10] w fun e w' => e = .returned (.string (decB x)) ∧ Below w.heap.size w w' := fmtUint_any x h0 h1 w htab

theorem run_cat (x y : ByteArray) (h : x.size + y.size ≤ 9223372036854775807) (W : World) : (Op.stringOp .add x y).run Tryd.prog W = .ok (.string (x ++ y)) W := by
  unfold Op.stringOp
  have e : ¬ ((x.size + y.size : Nat) : Int) > IntKind.i64.max := by
    show ¬ ((x.size + y.size : Nat) : Int) > 9223372036854775807
    omega
  simp only [if_neg e]
  rfl

theorem ret_string {x y : ByteArray} (h : x = y) : Ending.returned (.string x) = .returned (.string y) := by rw [h]
/-- The text of three numbers with points between them. -/
def coreB (a b c : Int) : ByteArray := decB a ++ ⟨#[46]⟩ ++ decB b ++ ⟨#[46]⟩ ++ decB c
/-- A version's text. -/
def textB (a b c : Int) (p m : ByteArray) : ByteArray :=
  if p.toList.isEmpty = true then (if m.toList.isEmpty = true then coreB a b c else coreB a b c ++ (⟨#[43]⟩ ++ m))
  else (if m.toList.isEmpty = true then coreB a b c ++ (⟨#[45]⟩ ++ p) else coreB a b c ++ (⟨#[45]⟩ ++ p) ++ (⟨#[43]⟩ ++ m))

set_option maxRecDepth 100000 in
set_option maxHeartbeats 4000000 in
theorem verString_any (a b c : Int) (p m o : ByteArray) (a0 : 0 ≤ a) (a1 : a < 18446744073709551616) (b0 : 0 ≤ b) (b1 : b < 18446744073709551616) (c0' : 0 ≤ c) (c1' : c < 18446744073709551616) (hp : p.size ≤ 2147483647) (hm : m.size ≤ 2147483647) (w : World) (ht : Hid (Tab10 w)) :
    Calls Tryd.prog 26 #[.agg (verC a b c p m o)] w (fun e w' => e = .returned (.string (textB a b c p m)) ∧ Below w.heap.size w w') := by
  have sa := decB_size a a0 a1
  have sb := decB_size b b0 b1
  have sc := decB_size c c0' c1'
  have s1 : (⟨#[46]⟩ : ByteArray).size = 1 := rfl
  have s2 : (⟨#[45]⟩ : ByteArray).size = 1 := rfl
  have s3 : (⟨#[43]⟩ : ByteArray).size = 1 := rfl
  have r1 := run_cat (decB a) ⟨#[46]⟩ (by omega)
  have r2 := run_cat (decB a ++ ⟨#[46]⟩) (decB b) (by rw [ByteArray.size_append]; omega)
  have r3 := run_cat (decB a ++ ⟨#[46]⟩ ++ decB b) ⟨#[46]⟩ (by rw [ByteArray.size_append, ByteArray.size_append]; omega)
  have r4 := run_cat (decB a ++ ⟨#[46]⟩ ++ decB b ++ ⟨#[46]⟩) (decB c) (by rw [ByteArray.size_append, ByteArray.size_append, ByteArray.size_append]; omega)
  have r5 := run_cat ⟨#[45]⟩ p (by omega)
  have r6 := run_cat ⟨#[43]⟩ m (by omega)
  have r7 := run_cat (decB a ++ ⟨#[46]⟩ ++ decB b ++ ⟨#[46]⟩ ++ decB c) (⟨#[45]⟩ ++ p) (by simp only [ByteArray.size_append]; omega)
  have r8 := run_cat (decB a ++ ⟨#[46]⟩ ++ decB b ++ ⟨#[46]⟩ ++ decB c) (⟨#[43]⟩ ++ m) (by simp only [ByteArray.size_append]; omega)
  have r9 := run_cat (decB a ++ ⟨#[46]⟩ ++ decB b ++ ⟨#[46]⟩ ++ decB c ++ (⟨#[45]⟩ ++ p)) (⟨#[43]⟩ ++ m) (by simp only [ByteArray.size_append]; omega)
  clear sa sb sc s1 s2 s3 hp hm
  cases h1 : p.toList.isEmpty
  all_goals cases h2 : m.toList.isEmpty
  all_goals
    have H1 := Lib.hid h1
    have H2 := Lib.hid h2
    (try (have k1 : p.toList = [] := by simpa using h1); clear h1)
    (try (have k2 : m.toList = [] := by simpa using h2); clear h2)
    go_enter Tryd.func26, Tryd.ntmps26
    go_wp2_with fail
    have c0 : (w.alloc (.cells (verC a b c p m o) 61)).cell? ⟨w.heap.size, 0, none⟩ = some (.int .u64 a) := (verAt_last _ _ _ rfl).cell 0
    have c1 : (w.alloc (.cells (verC a b c p m o) 61)).cell? ⟨w.heap.size, 1, none⟩ = some (.int .u64 b) := (verAt_last _ _ _ rfl).cell 1
    have c2 : (w.alloc (.cells (verC a b c p m o) 61)).cell? ⟨w.heap.size, 2, none⟩ = some (.int .u64 c) := (verAt_last _ _ _ rfl).cell 2
    have c3 : (w.alloc (.cells (verC a b c p m o) 61)).cell? ⟨w.heap.size, 3, none⟩ = some (.string p) := (verAt_last _ _ _ rfl).cell 3
    have c4 : (w.alloc (.cells (verC a b c p m o) 61)).cell? ⟨w.heap.size, 4, none⟩ = some (.string m) := (verAt_last _ _ _ rfl).cell 4
    have c5 : (w.alloc (.cells (verC a b c p m o) 61)).cell? ⟨w.heap.size, 5, none⟩ = some (.string o) := (verAt_last _ _ _ rfl).cell 5
    go_region_held3 (fun w' => w'.cell? ⟨w.heap.size, 0, none⟩ = some (.int .u64 a) ∧ w'.cell? ⟨w.heap.size, 1, none⟩ = some (.int .u64 b) ∧ w'.cell? ⟨w.heap.size, 2, none⟩ = some (.int .u64 c) ∧ w'.cell? ⟨w.heap.size, 3, none⟩ = some (.string p) ∧ w'.cell? ⟨w.heap.size, 4, none⟩ = some (.string m) ∧ w'.cell? ⟨w.heap.size, 5, none⟩ = some (.string o)) (first | (refine ⟨?_, ?_, ?_, ?_, ?_, ?_⟩ <;> (repeat (first | assumption | (with_reducible refine keepD ?_) | (with_reducible refine keepN ?_) | (with_reducible refine keepV ?_)))) | go_keep)
      (first | (go_at_call 44; refine (fmtDec_any _ (by assumption) (by assumption) _ (tabBelow ht (by repeat (first | assumption | exact Below.refl _ _ | refine below_drewN ?_ _ | refine Below.drew ?_ | refine Below.alloc ?_ (by first | omega | (simp <;> omega)) _)))).mono ?_; rintro e w' ⟨rfl, hb⟩; have c0 : w'.cell? ⟨w.heap.size, 0, none⟩ = some (.int .u64 a) := (by refine keepB hb (by first | omega | (simp <;> omega)) ?_; (repeat (first | assumption | (with_reducible refine keepD ?_) | (with_reducible refine keepN ?_) | (with_reducible refine keepV ?_)))); have c1 : w'.cell? ⟨w.heap.size, 1, none⟩ = some (.int .u64 b) := (by refine keepB hb (by first | omega | (simp <;> omega)) ?_; (repeat (first | assumption | (with_reducible refine keepD ?_) | (with_reducible refine keepN ?_) | (with_reducible refine keepV ?_)))); have c2 : w'.cell? ⟨w.heap.size, 2, none⟩ = some (.int .u64 c) := (by refine keepB hb (by first | omega | (simp <;> omega)) ?_; (repeat (first | assumption | (with_reducible refine keepD ?_) | (with_reducible refine keepN ?_) | (with_reducible refine keepV ?_)))); have c3 : w'.cell? ⟨w.heap.size, 3, none⟩ = some (.string p) := (by refine keepB hb (by first | omega | (simp <;> omega)) ?_; (repeat (first | assumption | (with_reducible refine keepD ?_) | (with_reducible refine keepN ?_) | (with_reducible refine keepV ?_)))); have c4 : w'.cell? ⟨w.heap.size, 4, none⟩ = some (.string m) := (by refine keepB hb (by first | omega | (simp <;> omega)) ?_; (repeat (first | assumption | (with_reducible refine keepD ?_) | (with_reducible refine keepN ?_) | (with_reducible refine keepV ?_)))); have c5 : w'.cell? ⟨w.heap.size, 5, none⟩ = some (.string o) := (by refine keepB hb (by first | omega | (simp <;> omega)) ?_; (repeat (first | assumption | (with_reducible refine keepD ?_) | (with_reducible refine keepN ?_) | (with_reducible refine keepV ?_)))); have bk : Below w.heap.size w w' := Below.trans (by repeat (first | assumption | exact Below.refl _ _ | refine below_drewN ?_ _ | refine Below.drew ?_ | refine Below.alloc ?_ (by first | omega | (simp <;> omega)) _)) (hb.mono (by first | omega | (simp <;> omega))); have nk : w.heap.size + 1 ≤ w'.heap.size := (by have := hb.size; first | omega | (simp at this; omega))))
    go_wp2_with fail
    go_ret
    exact ⟨ret_string (by unfold textB; rw [H1.out, H2.out]; rfl), bk⟩
end Go.Proofs.YtjlbljajgkiniaaDoor
