/- Sets of numbers below 64 as the bits of a number: plain facts, without a program. -/
import Derived.Laws.BitsAllLaws
namespace Go.Proofs.YtkhggefbkhdimaaGreatDoor

def setTo (q : Nat → Bool) : Nat → Nat
  | 0 => 0
  | n + 1 => if q n then setTo q n ||| 2 ^ n else setTo q n

theorem setTo_bit (q : Nat → Bool) (n v : Nat) : (setTo q n).testBit v = (decide (v < n) && q v) := by
  induction n with
  | zero => simp [setTo]
  | succ n ih =>
    unfold setTo
    by_cases h : q n = true
    · rw [if_pos h, Nat.testBit_or, ih, Nat.testBit_two_pow]
      by_cases e : n = v
      · subst e; simp [h]
      · by_cases l : v < n
        · simp [e, l, show v < n + 1 by omega]
        · simp [e, l, show ¬ v < n + 1 by omega]
    · rw [if_neg h, ih]
      by_cases e : n = v
      · subst e; simp at h; simp [h]
      · by_cases l : v < n
        · simp [l, show v < n + 1 by omega]
        · simp [l, show ¬ v < n + 1 by omega]

/-- The set of the numbers below 64 for which q is true. -/
def setOf (q : Nat → Bool) : Nat := setTo q 64

theorem setOf_bit (q : Nat → Bool) (v : Nat) : (setOf q).testBit v = (decide (v < 64) && q v) := setTo_bit q 64 v

theorem bits_lt (n : Nat) (h : ∀ v, 64 ≤ v → n.testBit v = false) : n < 2 ^ 64 := by
  refine Nat.lt_pow_two_of_testBit n (fun i hi => ?_)
  exact h i hi

theorem setOf_lt (q : Nat → Bool) : setOf q < 18446744073709551616 := by
  have := bits_lt (setOf q) (fun v hv => by rw [setOf_bit]; simp; omega)
  exact this

theorem setOf_ext (n : Nat) (q : Nat → Bool) (h : n < 18446744073709551616) (hq : ∀ v, v < 64 → n.testBit v = q v) : n = setOf q := by
  apply Nat.eq_of_testBit_eq
  intro v
  rw [setOf_bit]
  by_cases hv : v < 64
  · rw [hq v hv]; simp [hv]
  · have : n.testBit v = false := Nat.testBit_lt_two_pow (Nat.lt_of_lt_of_le h (show 2 ^ 64 ≤ 2 ^ v from Nat.pow_le_pow_right (n := 2) (by decide) (by omega)))
    simp [hv, this]

/-- Is v one of a, a + s, a + 2s .. up to b. -/
def steps (a b s : Nat) (v : Nat) : Bool := decide (a ≤ v) && decide (v ≤ b) && decide ((v - a) % s = 0)

/-- The set of a, a + s, a + 2s .. up to b. -/
def GB (a b s : Nat) : Nat := setOf (steps a b s)

theorem GB_lt (a b s : Nat) : GB a b s < 18446744073709551616 := setOf_lt _

theorem GB_bit (a b s v : Nat) (hv : v < 64) : (GB a b s).testBit v = steps a b s v := by
  unfold GB; rw [setOf_bit]; simp [hv]

theorem sub_bit (n v : Nat) (h : n ≤ 64) : (18446744073709551616 - 2 ^ n).testBit v = (decide (v < 64) && decide (n ≤ v)) := by
  have e : 18446744073709551616 - 2 ^ n = (2 ^ (64 - n) - 1) * 2 ^ n := by
    rw [Nat.sub_mul, ← Nat.pow_add, show 64 - n + n = 64 by omega, Nat.one_mul]
  rw [e, Nat.testBit_mul_two_pow, Nat.testBit_two_pow_sub_one]
  by_cases h1 : n ≤ v
  · by_cases h2 : v < 64
    · simp [h1, h2]; omega
    · simp [h1, h2]; omega
  · simp [h1]

theorem mod_bit (n v : Nat) (h : n ≤ 64) (hv : v < 64) : ((18446744073709551616 - 2 ^ n) % 18446744073709551616).testBit v = decide (n ≤ v) := by
  rw [show (18446744073709551616 - 2 ^ n) % 18446744073709551616 = (18446744073709551616 - 2 ^ n) % 2 ^ 64 from rfl, Nat.testBit_mod_two_pow, sub_bit n v h]
  simp [hv]

theorem max_bit (v : Nat) (hv : v < 64) : (18446744073709551615 : Nat).testBit v = true := by
  rw [show (18446744073709551615 : Nat) = 2 ^ 64 - 1 from rfl, Nat.testBit_two_pow_sub_one]
  simpa using hv

theorem low_bit (n v : Nat) : (2 ^ n - 1).testBit v = decide (v < n) := Nat.testBit_two_pow_sub_one n v

/-- What Go computes for a step of 1: all ones below b + 1, and all from a on. -/
theorem GB_one (a b : Nat) (ha : a ≤ b) (hb : b ≤ 63) :
    bits .and .u64 (bits .xor .u64 IntKind.u64.max (IntKind.u64.wrap (18446744073709551615 * 2 ^ (b + 1)))) (IntKind.u64.wrap (18446744073709551615 * 2 ^ a)) = (GB a b 1 : Nat) := by
  have wr : ∀ n : Nat, n ≤ 64 → IntKind.u64.wrap (18446744073709551615 * 2 ^ n) = (((18446744073709551616 - 2 ^ n) % 18446744073709551616 : Nat) : Int) := by
    intro n hn
    have hp : 2 ^ n ≤ 18446744073709551616 := Nat.pow_le_pow_right (by omega) (show n ≤ 64 from hn)
    rw [IntKind.wrap_u64]
    have e : (18446744073709551615 : Int) * 2 ^ n = ((18446744073709551616 - 2 ^ n : Nat) : Int) + 18446744073709551616 * (2 ^ n - 1) := by
      rw [show (2 : Int) ^ n = ((2 ^ n : Nat) : Int) from by simp]
      generalize 2 ^ n = x at hp
      omega
    rw [e, Int.add_mul_emod_self_left]
    rfl
  have hm : IntKind.u64.max = ((18446744073709551615 : Nat) : Int) := by decide
  rw [wr (b + 1) (by omega), wr a (by omega), hm, u64_xor_nat _ _ (by omega) (Nat.mod_lt _ (by omega)), u64_and_nat _ _ ?_ (Nat.mod_lt _ (by omega))]
  · congr 1
    have hpa : 0 < 2 ^ a := Nat.pow_pos (by omega)
    have hpb : 0 < 2 ^ (b + 1) := Nat.pow_pos (by omega)
    refine setOf_ext _ _ ?_ ?_
    · exact Nat.lt_of_le_of_lt Nat.and_le_right (Nat.mod_lt _ (by omega))
    · intro v hv
      rw [Nat.testBit_and, Nat.testBit_xor, max_bit v hv, mod_bit _ v (by omega) hv, mod_bit _ v (by omega) hv]
      unfold steps
      rw [Nat.mod_one]
      by_cases h1 : a ≤ v
      · by_cases h2 : v ≤ b
        · rw [decide_eq_false (show ¬ b + 1 ≤ v by omega)]; simp [h1, h2]
        · rw [decide_eq_true (show b + 1 ≤ v by omega)]; simp [h2]
      · simp [h1]
  · exact Nat.xor_lt_two_pow (n := 64) (by omega) (Nat.mod_lt _ (by omega))

/-- What of the set lies below n. -/
def upTo (a b s n : Nat) : Nat := setOf (fun v => steps a b s v && decide (v < n))

theorem upTo_lt (a b s n : Nat) : upTo a b s n < 18446744073709551616 := setOf_lt _

theorem setOf_congr (p q : Nat → Bool) (h : ∀ v, v < 64 → p v = q v) : setOf p = setOf q :=
  setOf_ext _ _ (setOf_lt p) fun v hv => by rw [setOf_bit, h v hv]; simp [hv]

theorem upTo_start (a b s : Nat) : upTo a b s a = 0 := by
  refine (setOf_ext 0 _ (by omega) fun v _ => ?_).symm
  rw [Nat.zero_testBit]
  unfold steps
  by_cases h : a ≤ v
  · simp [show ¬ v < a by omega]
  · simp [h]

theorem upTo_end (a b s n : Nat) (h : b < n) : upTo a b s n = GB a b s := by
  refine setOf_congr _ _ fun v _ => ?_
  unfold steps
  by_cases h1 : v ≤ b
  · simp [show v < n by omega]
  · simp [h1]

theorem upTo_step (a b s n : Nat) (hs : 0 < s) (ha : a ≤ n) (hn : n ≤ b) (hb : b ≤ 63) (h0 : (n - a) % s = 0) :
    bits .or .u64 (upTo a b s n : Nat) (IntKind.u64.wrap (2 ^ n)) = (upTo a b s (n + s) : Nat) := by
  have hp : 2 ^ n < 18446744073709551616 := Nat.pow_lt_pow_right (a := 2) (by omega) (show n < 64 by omega)
  have e : IntKind.u64.wrap (2 ^ n) = ((2 ^ n : Nat) : Int) := by
    rw [IntKind.wrap_u64, show (2 : Int) ^ n = ((2 ^ n : Nat) : Int) from by simp]
    generalize 2 ^ n = x at hp
    omega
  rw [e, u64_or_nat _ _ (upTo_lt _ _ _ _) hp]
  congr 1
  refine setOf_ext _ _ (Nat.or_lt_two_pow (n := 64) (upTo_lt _ _ _ _) hp) fun v hv => ?_
  rw [Nat.testBit_or, Nat.testBit_two_pow]
  unfold upTo
  rw [setOf_bit]
  by_cases e : n = v
  · subst e
    unfold steps
    simp [ha, hn, h0, hs]
  · by_cases h1 : v < n
    · simp [e, h1, show v < n + s by omega, hv]
    · by_cases h2 : v < n + s
      · have hne : ¬ (v - a) % s = 0 := by
          intro h3
          have h4 : v - a = (n - a) + (v - n) := by omega
          rw [h4, Nat.add_mod, h0, Nat.zero_add, Nat.mod_mod, Nat.mod_eq_of_lt (by omega)] at h3
          omega
        unfold steps
        simp [e, h1, hne]
      · simp [e, h1, h2]

theorem step_mod (a s n : Nat) (ha : a ≤ n) (h0 : (n - a) % s = 0) : (n + s - a) % s = 0 := by
  rw [show n + s - a = (n - a) + s by omega, Nat.add_mod_right, h0]

theorem GB_first (a b s : Nat) (ha : a ≤ b) (hb : b ≤ 63) : (GB a b s).testBit a = true := by
  rw [GB_bit a b s a (by omega)]; unfold steps; simp [ha]

theorem GB_ne (a b s : Nat) (ha : a ≤ b) (hb : b ≤ 63) : (((GB a b s : Nat) : Int) != 0) = true := by
  have h := GB_first a b s ha hb
  rw [bne_iff_ne]
  intro e
  have : GB a b s = 0 := by omega
  rw [this, Nat.zero_testBit] at h
  cases h

theorem GB_shift (a b s k : Nat) (hk : b + k ≤ 63) : IntKind.u64.wrap (((GB a b s : Nat) : Int) * 2 ^ k) = ((GB (a + k) (b + k) s : Nat) : Int) := by
  rw [show (2 : Int) ^ k = ((2 ^ k : Nat) : Int) from by simp, ← Int.natCast_mul, IntKind.wrap_u64]
  have h : GB a b s * 2 ^ k % 18446744073709551616 = GB (a + k) (b + k) s := by
    refine setOf_ext _ _ (Nat.mod_lt _ (by omega)) fun v hv => ?_
    rw [show GB a b s * 2 ^ k % 18446744073709551616 = GB a b s * 2 ^ k % 2 ^ 64 from rfl, Nat.testBit_mod_two_pow, Nat.testBit_mul_two_pow]
    by_cases h1 : k ≤ v
    · rw [GB_bit a b s (v - k) (by omega)]
      unfold steps
      rw [show v - (a + k) = v - k - a by omega]
      by_cases h2 : a + k ≤ v
      · by_cases h3 : v ≤ b + k
        · simp [h1, hv, h2, h3, show a ≤ v - k by omega, show v - k ≤ b by omega]
        · simp [h3, show ¬ v - k ≤ b by omega]
      · simp [h2, show ¬ a ≤ v - k by omega]
    · unfold steps
      simp [h1, show ¬ a + k ≤ v by omega]
  rw [← h]
  rfl
end Go.Proofs.YtkhggefbkhdimaaGreatDoor
