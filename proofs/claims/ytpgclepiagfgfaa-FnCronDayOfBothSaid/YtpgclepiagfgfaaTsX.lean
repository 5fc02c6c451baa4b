/- All days: plain; cronEachDay, cronMoved. -/
import Derived.Test.YtpgclepiagfgfaaTsV
namespace Go.Proofs.Ytpgclepiagfgfaa
open Go.RowKit
set_option linter.unusedVariables false
set_option linter.unusedSimpArgs false

/-- A schedule with all days. -/
def allS (s : Sched) : Sched := { s with dom := starV 1 31, mo := starV 1 12, dow := starV 0 6 }
theorem all_fits (s : Sched) (v : Int) : fits (allS s) v = (hoOK s v && miOK s v && seOK s v) := by
  have e1 : moOK (allS s) v = true := by
    have h := month_bd (dayN v)
    show (starV 1 12).testBit _ = true
    rw [starV_bit 1 12 _ (by decide)]
    have hw : 1 ≤ (monthOf (dayN v)).toNat ∧ (monthOf (dayN v)).toNat ≤ 12 := by omega
    simp [hw.1, hw.2]
  have e2 : dyOK (allS s) v = true := by
    have hd := day_bd (dayN v)
    have hw : 1 ≤ (dayOf (dayN v)).toNat ∧ (dayOf (dayN v)).toNat ≤ 31 := by omega
    have hw2 : ((dayN v + 4) % 7).toNat ≤ 6 := by omega
    show dayB (starV 1 31) (starV 0 6) _ _ = true
    unfold dayB
    simp only [starV_bit 1 31 _ (by decide), starV_bit 0 6 _ (by decide)]
    simp [hw.1, hw.2, hw2]
  unfold fits
  rw [e1, e2]
  rfl
theorem all_period (s : Sched) (v k : Int) : fits (allS s) (v + 86400 * k) = fits (allS s) v := by
  rw [all_fits, all_fits]
  unfold hoOK miOK seOK
  rw [show (v + 86400 * k) % 86400 = v % 86400 by omega, show (v + 86400 * k) % 3600 = v % 3600 by omega, show (v + 86400 * k) % 60 = v % 60 by omega]
theorem never_all (s : Sched) : neverB (allS s) = neverB s := rfl
theorem some_of {F : Nat → Bool} (h : emptyB F = false) : ∃ i, i < 63 ∧ F i = true := by
  apply Classical.byContradiction
  intro hn
  have : emptyB F = true := (emptyB_iff F).2 fun i hi => by
    cases hf : F i with
    | false => rfl
    | true => exact absurd ⟨i, hi, hf⟩ hn
  rw [h] at this; cases this
theorem inK_rng {s : Sched} {k i : Nat} (h : inK s k i = true) : i ≤ highK k ∧ (bitsK s k).testBit i = true := by
  unfold inK at h
  simp at h
  exact ⟨by omega, h.2⟩
/-- Some second of each day is met. -/
theorem all_some (s : Sched) (h : neverB s = false) (f : Int) : ∃ v, f ≤ v ∧ v < f + 86400 ∧ fits (allS s) v = true := by
  unfold neverB at h
  simp only [Bool.or_eq_false_iff] at h
  obtain ⟨a, -, ha⟩ := some_of h.1.1
  obtain ⟨b, -, hb⟩ := some_of h.1.2
  obtain ⟨c, -, hc⟩ := some_of h.2
  have ha := inK_rng ha
  have hb := inK_rng hb
  have hc := inK_rng hc
  have a1 : a ≤ 23 := ha.1
  have b1 : b ≤ 59 := hb.1
  have c1 : c ≤ 59 := hc.1
  obtain ⟨x, hx⟩ : ∃ x : Int, x = 3600 * a + 60 * b + c := ⟨_, rfl⟩
  refine ⟨f + (x - f) % 86400, by omega, by omega, ?_⟩
  have e : (f + (x - f) % 86400) = x + 86400 * ((f + (x - f) % 86400 - x) / 86400) := by omega
  rw [e, all_period, all_fits]
  unfold hoOK miOK seOK
  rw [show (x % 86400 / 3600).toNat = a by omega, show (x % 3600 / 60).toNat = b by omega, show (x % 60).toNat = c by omega]
  have q1 : s.ho.testBit a = true := ha.2
  have q2 : s.mi.testBit b = true := hb.2
  have q3 : s.se.testBit c = true := hc.2
  rw [q1, q2, q3]; rfl
theorem all_next {s : Sched} {f r : Int} (h : NextIs (allS s) f (yr f + 5) r) (hn : neverB s = false) (hf : 1 ≤ f) : 0 < r ∧ r < f + 86400 := by
  obtain ⟨v, v1, v2, v3⟩ := all_some s hn f
  have hy : yr v ≤ yr f + 5 := by have := yr_next f (v - f) (by omega) (by omega); rw [show f + (v - f) = v by omega] at this; omega
  rcases h with ⟨h1, h2, h3, h4⟩ | ⟨-, h4⟩
  · refine ⟨by omega, ?_⟩
    apply Classical.byContradiction
    intro hc
    have := h4 v v1 (by omega)
    rw [v3] at this; cases this
  · have := h4 v v1 hy
    rw [v3] at this; cases this
theorem daily_plain {s : Sched} {f g r q d : Int} (hg : g = f + 86400 * d) (h : NextIs (allS s) f (yr f + 5) r) (k : NextIs (allS s) g (yr g + 5) q) (hf : 1 ≤ f) (hg1 : 1 ≤ g) :
    (neverB s = true → r = 0 ∧ q = 0) ∧ (neverB s = false → 0 < r ∧ 0 < q ∧ q = r + 86400 * d) := by
  constructor
  · intro hn
    have z : ∀ {first lim x : Int}, NextIs (allS s) first lim x → x = 0 := fun {first lim x} hz => by
      rcases hz with ⟨_, h2, _, _⟩ | ⟨h2, _⟩
      · rw [never_fits (by rw [never_all]; exact hn)] at h2; cases h2
      · exact h2
    exact ⟨z h, z k⟩
  · intro hn
    obtain ⟨r1, r2⟩ := all_next h hn hf
    obtain ⟨q1, q2⟩ := all_next k hn hg1
    refine ⟨r1, q1, ?_⟩
    obtain ⟨h1, h2, h3, h4⟩ := h.from r1
    have hy : yr (r + 86400 * d) ≤ yr g + 5 := by have := yr_next g (r + 86400 * d - g) (by omega) (by omega); rw [show g + (r + 86400 * d - g) = r + 86400 * d by omega] at this; omega
    refine k.unique (.inl ⟨by omega, by rw [all_period]; exact h2, hy, fun v k1 k2 => ?_⟩)
    have := h4 (v - 86400 * d) (by omega) (by omega)
    rw [← this, ← all_period s (v - 86400 * d) d, show v - 86400 * d + 86400 * d = v by omega]
set_option maxRecDepth 100000 in
set_option maxHeartbeats 4000000 in
theorem each_any (s : Sched) (ev : Bool) (dl : Int) (V3 V4 V5 : Nat) (HA3 : Hid (AllIs 3 V3)) (HA4 : Hid (AllIs 4 V4)) (HA5 : Hid (AllIs 5 V5)) (w : World) :
    Calls Try.prog 28 #[.agg #[.bool ev, .int .i64 dl, .int .u64 s.se, .int .u64 s.mi, .int .u64 s.ho, .int .u64 s.dom, .int .u64 s.mo, .int .u64 s.dow]] w fun e w' => e = .returned (.agg #[.bool ev, .int .i64 dl, .int .u64 s.se, .int .u64 s.mi, .int .u64 s.ho, .int .u64 V3, .int .u64 V4, .int .u64 V5]) ∧ Below w.heap.size w w' := by
  have HR0 := Lib.hid (((rws0 w).alloc _ rfl #[.bool ev, .int .i64 dl, .int .u64 s.se, .int .u64 s.mi, .int .u64 s.ho, .int .u64 s.dom, .int .u64 s.mo, .int .u64 s.dow] 38).alloc (w.heap.size + 1) (by simp) #[.bool false, .int .i64 0, .int .u64 0, .int .u64 0, .int .u64 0, .int .u64 0, .int .u64 0, .int .u64 0] 38)
  go_enter Try.func28, Try.ntmps28
  go_wp2_with fail
  refine (HA4.out _).mono ?_
  rintro e w1 ⟨rfl, hb⟩
  have HR1 := Lib.hid (HR0.out.below hb)
  clear hb HR0
  go_wp2_with fail
  refine (HA3.out _).mono ?_
  rintro e w2 ⟨rfl, hb⟩
  have HR2 := Lib.hid (HR1.out.below hb)
  clear hb HR1
  go_wp2_with fail
  refine (HA5.out _).mono ?_
  rintro e w3 ⟨rfl, hb⟩
  have HR3 := Lib.hid (HR2.out.below hb)
  clear hb HR2
  have s0 : w3.cell? ⟨w.heap.size, 0, none⟩ = some (.bool ev) := HR3.out.at1.cell 0
  have f0 := HR3.out.at1.free 0
  have z0 : w3.cell? ⟨w.heap.size + 1, 0, none⟩ = some (.bool false) := HR3.out.at0.cell 0
  have g0 := HR3.out.at0.free 0
  have s1 : w3.cell? ⟨w.heap.size, 1, none⟩ = some (.int .i64 dl) := HR3.out.at1.cell 1
  have f1 := HR3.out.at1.free 1
  have z1 : w3.cell? ⟨w.heap.size + 1, 1, none⟩ = some (.int .i64 0) := HR3.out.at0.cell 1
  have g1 := HR3.out.at0.free 1
  have s2 : w3.cell? ⟨w.heap.size, 2, none⟩ = some (.int .u64 s.se) := HR3.out.at1.cell 2
  have f2 := HR3.out.at1.free 2
  have z2 : w3.cell? ⟨w.heap.size + 1, 2, none⟩ = some (.int .u64 0) := HR3.out.at0.cell 2
  have g2 := HR3.out.at0.free 2
  have s3 : w3.cell? ⟨w.heap.size, 3, none⟩ = some (.int .u64 s.mi) := HR3.out.at1.cell 3
  have f3 := HR3.out.at1.free 3
  have z3 : w3.cell? ⟨w.heap.size + 1, 3, none⟩ = some (.int .u64 0) := HR3.out.at0.cell 3
  have g3 := HR3.out.at0.free 3
  have s4 : w3.cell? ⟨w.heap.size, 4, none⟩ = some (.int .u64 s.ho) := HR3.out.at1.cell 4
  have f4 := HR3.out.at1.free 4
  have z4 : w3.cell? ⟨w.heap.size + 1, 4, none⟩ = some (.int .u64 0) := HR3.out.at0.cell 4
  have g4 := HR3.out.at0.free 4
  have s5 : w3.cell? ⟨w.heap.size, 5, none⟩ = some (.int .u64 s.dom) := HR3.out.at1.cell 5
  have f5 := HR3.out.at1.free 5
  have z5 : w3.cell? ⟨w.heap.size + 1, 5, none⟩ = some (.int .u64 0) := HR3.out.at0.cell 5
  have g5 := HR3.out.at0.free 5
  have s6 : w3.cell? ⟨w.heap.size, 6, none⟩ = some (.int .u64 s.mo) := HR3.out.at1.cell 6
  have f6 := HR3.out.at1.free 6
  have z6 : w3.cell? ⟨w.heap.size + 1, 6, none⟩ = some (.int .u64 0) := HR3.out.at0.cell 6
  have g6 := HR3.out.at0.free 6
  have s7 : w3.cell? ⟨w.heap.size, 7, none⟩ = some (.int .u64 s.dow) := HR3.out.at1.cell 7
  have f7 := HR3.out.at1.free 7
  have z7 : w3.cell? ⟨w.heap.size + 1, 7, none⟩ = some (.int .u64 0) := HR3.out.at0.cell 7
  have g7 := HR3.out.at0.free 7
  have bk := HR3.out.2
  go_wp2_with fail
  refine bodyPost_ret (v := .agg #[.bool ev, .int .i64 dl, .int .u64 s.se, .int .u64 s.mi, .int .u64 s.ho, .int .u64 V3, .int .u64 V4, .int .u64 V5]) (by simp [results, Try.results28, go_sem, z0, g0, z1, g1, z2, g2, z3, g3, z4, g4, z5, g5, z6, g6, z7, g7]) rfl ⟨rfl, ?_⟩
  exact (by repeat (first | (with_reducible assumption) | (with_reducible exact Below.refl _ _) | (with_reducible refine Below.setCell ?_ (by first | omega | (simp <;> omega)) _) | refine below_drewN ?_ _ | refine Below.drew ?_ | refine Below.alloc ?_ (by first | omega | (simp <;> omega)) _))

set_option maxHeartbeats 1000000 in
theorem moved_no (x1 x2 k : Int) (w : World) :
    Calls Try.prog 29 #[.agg #[.int .i64 x1, .int .i64 0], .bool false, .agg #[.int .i64 x2, .int .i64 0], .bool false, .int .i64 k] w fun e w' => e = .returned (.bool true) ∧ Below w.heap.size w w' := by
  go_enter Try.func29, Try.ntmps29
  go_wp2_with fail
  go_ret
  exact ⟨rfl, (by repeat (first | (with_reducible assumption) | (with_reducible exact Below.refl _ _) | (with_reducible refine Below.setCell ?_ (by first | omega | (simp <;> omega)) _) | refine below_drewN ?_ _ | refine Below.drew ?_ | refine Below.alloc ?_ (by first | omega | (simp <;> omega)) _))⟩

set_option maxHeartbeats 1000000 in
theorem moved_yes (x1 x2 k : Int) (hx : Hid (x2 = x1 + k)) (h0 : -100000000000 ≤ k) (h1 : k ≤ 100000000000) (h2 : -100000000000 ≤ x1) (h3 : x1 ≤ 400000000000) (w : World) :
    Calls Try.prog 29 #[.agg #[.int .i64 x1, .int .i64 0], .bool true, .agg #[.int .i64 x2, .int .i64 0], .bool true, .int .i64 k] w fun e w' => e = .returned (.bool true) ∧ Below w.heap.size w w' := by
  have he : (x2 == x1 + k) = true := by simp [hx.out]
  go_enter Try.func29, Try.ntmps29
  go_wp2_with fail
  go_ret
  exact ⟨rfl, (by repeat (first | (with_reducible assumption) | (with_reducible exact Below.refl _ _) | (with_reducible refine Below.setCell ?_ (by first | omega | (simp <;> omega)) _) | refine below_drewN ?_ _ | refine Below.drew ?_ | refine Below.alloc ?_ (by first | omega | (simp <;> omega)) _))⟩

end Go.Proofs.Ytpgclepiagfgfaa
