/- laws.FnCronItemRange returns true for every input. -/
import Derived.Test.YtcbcmbkioibliaaDoorCrLaw
import Derived.Test.YtcbcmbkioibliaaDoorCrItem
namespace Go.Proofs.YtcbcmbkioibliaaDoor
open Go.RowKit Go.Shelf
set_option linter.unusedVariables false
set_option linter.unusedSimpArgs false

theorem u64_nat {x : Int} (h : (Lit.int .u64 x).wf = true) : ∃ n : Nat, x = n := by
  have h2 : (decide (IntKind.u64.min ≤ x) && decide (x ≤ IntKind.u64.max)) = true := h
  have e1 : IntKind.u64.min = 0 := by decide
  rw [e1] at h2
  simp only [Bool.and_eq_true, decide_eq_true_eq] at h2
  exact ⟨x.toNat, by omega⟩
theorem i64_lt {x : Int} (h : (Lit.int .i64 x).wf = true) : x < 9223372036854775808 := by
  have h2 : (decide (IntKind.i64.min ≤ x) && decide (x ≤ IntKind.i64.max)) = true := h
  have e1 : IntKind.i64.max = 9223372036854775807 := by decide
  rw [e1] at h2
  simp only [Bool.and_eq_true, decide_eq_true_eq] at h2
  omega

theorem itemRange_law (low high a b k : Int) (_w0 : (Lit.int .u64 low).wf = true) (_w1 : (Lit.int .u64 high).wf = true) (_w2 : (Lit.int .i64 a).wf = true) (_w3 : (Lit.int .i64 b).wf = true) (_w4 : (Lit.int .i64 k).wf = true) (w : World) (ht : Hid (Tab10 w)) :
    Calls Tryd.prog 3 #[.int .u64 low, .int .u64 high, .int .i64 a, .int .i64 b, .int .i64 k] w fun e w' => e = .returned (.bool true) ∧ Below w.heap.size w w' := by
  have ha := i64_lt _w2
  have hb := i64_lt _w3
  cases hB : (decide (low ≤ high) && decide (high ≤ 62)) with
  | false => exact out_0 low high a b k hB w
  | true =>
    by_cases h1 : a < 0
    · exact out_1 low high a b k hB h1 w
    by_cases h2 : b < 0
    · exact out_2 low high a b k hB (by omega) h2 w
    by_cases h3 : k < 0
    · exact out_3 low high a b k hB (by omega) (by omega) h3 w
    by_cases h4 : 2147483648 < k
    · exact out_4 low high a b k hB (by omega) (by omega) h4 w
    simp only [Bool.and_eq_true, decide_eq_true_eq] at hB
    obtain ⟨l, rfl⟩ := u64_nat _w0
    obtain ⟨h, rfl⟩ := u64_nat _w1
    obtain ⟨a, rfl⟩ : ∃ n : Nat, a = n := ⟨a.toNat, by omega⟩
    obtain ⟨b, rfl⟩ : ∃ n : Nat, b = n := ⟨b.toNat, by omega⟩
    obtain ⟨k, rfl⟩ : ∃ n : Nat, k = n := ⟨k.toNat, by omega⟩
    have hh : l ≤ h ∧ h ≤ 62 := by omega
    have ha' : a < 9223372036854775808 := by omega
    have hb' : b < 9223372036854775808 := by omega
    have hk' : k ≤ 2147483648 := by omega
    by_cases c1 : b < a
    · exact range_by l h a b k hh ha' hb' hk' c1 (itemP_err l h a b hh.2 ha' hb' (.inr (.inr c1))) (itemS_err l h a b k hh.2 ha' hb' hk' (.inr (.inr (.inl c1)))) w ht
    by_cases c2 : a < l
    · exact range_lo l h a b k hh ha' hb' hk' (by omega) c2 (itemP_err l h a b hh.2 ha' hb' (.inl c2)) (itemS_err l h a b k hh.2 ha' hb' hk' (.inl c2)) w ht
    by_cases c3 : h < b
    · exact range_hi l h a b k hh ha' hb' hk' (by omega) (by omega) c3 (itemP_err l h a b hh.2 ha' hb' (.inr (.inl c3))) (itemS_err l h a b k hh.2 ha' hb' hk' (.inr (.inl c3))) w ht
    have P := itemP_ok l h a b hh.2 ha' hb' (by omega) (by omega) (by omega)
    by_cases c4 : k = 0
    · exact range_k0 l h a b k hh ha' hb' hk' (by omega) (by omega) (by omega) c4 P (itemS_err l h a b k hh.2 ha' hb' hk' (.inr (.inr (.inr c4)))) w ht
    · exact range_kp l h a b k hh ha' hb' hk' (by omega) (by omega) (by omega) (by omega) P (itemS_ok l h a b k hh.2 ha' hb' hk' (by omega) (by omega) (by omega) (by omega)) w ht
end Go.Proofs.YtcbcmbkioibliaaDoor
