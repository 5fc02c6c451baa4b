/- The short cuts that pub/gotime takes in its calendar, plain. -/
import Derived.Test.YtpgclepiagfgfaaPCal
import Derived.Laws.BitsAllLaws
namespace Go.Proofs.Ytpgclepiagfgfaa
set_option linter.unusedVariables false
set_option linter.unusedSimpArgs false

theorem nat_or3 (x : Nat) : x ||| 3 = 4 * (x / 4) + 3 := by
  apply Nat.eq_of_testBit_eq
  intro j
  have e1 : x.testBit j = (2 ^ 2 * (x / 4) + x % 4).testBit j := by congr 1; omega
  have e2 : (4 * (x / 4) + 3).testBit j = (2 ^ 2 * (x / 4) + 3).testBit j := rfl
  rw [Nat.testBit_or, e1, e2, Nat.testBit_two_pow_mul_add _ (by omega), Nat.testBit_two_pow_mul_add _ (by omega)]
  by_cases h : j < 2
  · have h3 : (3 : Nat).testBit j = true := by
      have : j = 0 ∨ j = 1 := by omega
      rcases this with rfl | rfl <;> rfl
    simp [h, h3]
  · have h3 : (3 : Nat).testBit j = false := Nat.testBit_lt_two_pow (Nat.lt_of_lt_of_le (show 3 < 2 ^ 2 by decide) (Nat.pow_le_pow_right (by decide) (by omega)))
    simp [h, h3]
theorem or3 (x : Int) (h0 : 0 ≤ x) (h1 : x < 4294967296) : bits .or .u32 x 3 = 4 * (x / 4) + 3 := by
  obtain ⟨k, rfl⟩ : ∃ k : Nat, x = k := ⟨x.toNat, by omega⟩
  rw [show (3 : Int) = ((3 : Nat) : Int) from rfl, u32_or_nat k 3 (by omega) (by decide), nat_or3]
  omega
theorem and16 (x : Int) (h0 : 0 ≤ x) (h1 : x < 4294967296) : bits .and .u32 x 65535 = x % 65536 := by
  obtain ⟨k, rfl⟩ : ∃ k : Nat, x = k := ⟨x.toNat, by omega⟩
  rw [show (65535 : Int) = ((2 ^ 16 - 1 : Nat) : Int) from rfl, u32_and_nat k (2 ^ 16 - 1) (by omega) (by decide), Nat.and_two_pow_sub_one_eq_mod]
  omega

/-- 2939745 (4 r + 3) in base 2 to the 32. -/
theorem cut1461 (r : Int) (h0 : 0 ≤ r) (h1 : r ≤ 36524) :
    2939745 * (4 * r + 3) / 4294967296 = (4 * r + 3) / 1461 ∧ 2939745 * (4 * r + 3) % 4294967296 / 2939745 / 4 = (4 * r + 3) % 1461 / 4 := by
  generalize hx : 4 * r + 3 = x
  have hq : x = 1461 * (x / 1461) + x % 1461 := by omega
  have b1 : 0 ≤ x / 1461 ∧ x / 1461 ≤ 99 := by omega
  have b2 : 0 ≤ x % 1461 ∧ x % 1461 ≤ 1460 := by omega
  generalize x / 1461 = q at *
  generalize x % 1461 = s at *
  have e : 2939745 * x = 4294967296 * q + (149 * q + 2939745 * s) := by omega
  rw [e]
  have l : 0 ≤ 149 * q + 2939745 * s ∧ 149 * q + 2939745 * s < 4294967296 := by omega
  have e1 : (4294967296 * q + (149 * q + 2939745 * s)) / 4294967296 = q := by omega
  have e2 : (4294967296 * q + (149 * q + 2939745 * s)) % 4294967296 = 149 * q + 2939745 * s := by omega
  have e3 : (149 * q + 2939745 * s) / 2939745 = s := by omega
  rw [e1, e2, e3]
  exact ⟨rfl, rfl⟩

theorem cut153 (a : Int) (h0 : 0 ≤ a) (h1 : a ≤ 365) : (2141 * a + 197913) / 65536 = (5 * a + 461) / 153 ∧ (2141 * a + 197913) % 65536 / 2141 = (5 * a + 461) % 153 / 5 := by
  obtain ⟨k, hk⟩ : ∃ k : Int, (5 * a + 461) / 153 = k := ⟨_, rfl⟩
  have hc : k = 3 ∨ k = 4 ∨ k = 5 ∨ k = 6 ∨ k = 7 ∨ k = 8 ∨ k = 9 ∨ k = 10 ∨ k = 11 ∨ k = 12 ∨ k = 13 ∨ k = 14 := by omega
  rw [hk]
  rcases hc with rfl | rfl | rfl | rfl | rfl | rfl | rfl | rfl | rfl | rfl | rfl | rfl
  · obtain ⟨d, rfl⟩ : ∃ d : Int, a = 0 + d := ⟨a - 0, by omega⟩
    have b : 0 ≤ d ∧ d ≤ 30 := by omega
    exact ⟨by omega, by omega⟩
  · obtain ⟨d, rfl⟩ : ∃ d : Int, a = 31 + d := ⟨a - 31, by omega⟩
    have b : 0 ≤ d ∧ d ≤ 29 := by omega
    exact ⟨by omega, by omega⟩
  · obtain ⟨d, rfl⟩ : ∃ d : Int, a = 61 + d := ⟨a - 61, by omega⟩
    have b : 0 ≤ d ∧ d ≤ 30 := by omega
    exact ⟨by omega, by omega⟩
  · obtain ⟨d, rfl⟩ : ∃ d : Int, a = 92 + d := ⟨a - 92, by omega⟩
    have b : 0 ≤ d ∧ d ≤ 29 := by omega
    exact ⟨by omega, by omega⟩
  · obtain ⟨d, rfl⟩ : ∃ d : Int, a = 122 + d := ⟨a - 122, by omega⟩
    have b : 0 ≤ d ∧ d ≤ 30 := by omega
    exact ⟨by omega, by omega⟩
  · obtain ⟨d, rfl⟩ : ∃ d : Int, a = 153 + d := ⟨a - 153, by omega⟩
    have b : 0 ≤ d ∧ d ≤ 30 := by omega
    exact ⟨by omega, by omega⟩
  · obtain ⟨d, rfl⟩ : ∃ d : Int, a = 184 + d := ⟨a - 184, by omega⟩
    have b : 0 ≤ d ∧ d ≤ 29 := by omega
    exact ⟨by omega, by omega⟩
  · obtain ⟨d, rfl⟩ : ∃ d : Int, a = 214 + d := ⟨a - 214, by omega⟩
    have b : 0 ≤ d ∧ d ≤ 30 := by omega
    exact ⟨by omega, by omega⟩
  · obtain ⟨d, rfl⟩ : ∃ d : Int, a = 245 + d := ⟨a - 245, by omega⟩
    have b : 0 ≤ d ∧ d ≤ 29 := by omega
    exact ⟨by omega, by omega⟩
  · obtain ⟨d, rfl⟩ : ∃ d : Int, a = 275 + d := ⟨a - 275, by omega⟩
    have b : 0 ≤ d ∧ d ≤ 30 := by omega
    exact ⟨by omega, by omega⟩
  · obtain ⟨d, rfl⟩ : ∃ d : Int, a = 306 + d := ⟨a - 306, by omega⟩
    have b : 0 ≤ d ∧ d ≤ 30 := by omega
    exact ⟨by omega, by omega⟩
  · obtain ⟨d, rfl⟩ : ∃ d : Int, a = 337 + d := ⟨a - 337, by omega⟩
    have b : 0 ≤ d ∧ d ≤ 28 := by omega
    exact ⟨by omega, by omega⟩

/-- The absolute day of day n. -/
theorem abs_century (n : Int) : (4 * (n + 106751991073400) + 3) / 146097 = marchC n + 2922770224 ∧ (4 * (n + 106751991073400) + 3) % 146097 = (4 * marchDay n + 3) % 146097 := by
  unfold marchC marchDay; omega
theorem marchC_bd (n : Int) (h0 : -719162 ≤ n) (h1 : n < 100000000) : 0 ≤ marchC n ∧ marchC n ≤ 2800 := by unfold marchC marchDay; omega
end Go.Proofs.Ytpgclepiagfgfaa
