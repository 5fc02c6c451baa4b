/- laws.FnCronNextEitherDay. -/
import Derived.Test.YtpgclepiagfgfaaTsV
namespace Go.Proofs.Ytpgclepiagfgfaa
open Go.RowKit
set_option linter.unusedVariables false
set_option linter.unusedSimpArgs false

theorem starV_lt (low high : Nat) : starV low high < 18446744073709551616 := Nat.or_lt_two_pow (n := 64) (GB_lt _ _ _) (by decide)
theorem ear_ans (ra rb : Int) (ha : 0 ≤ ra) (hb : 0 ≤ rb) : earB (ansX ra) (ansB ra) (ansX rb) (ansB rb) = (!decide (0 < ra) || (decide (0 < rb) && decide (rb < ra))) := by
  unfold earB ansB
  by_cases a1 : 0 < ra
  · by_cases a2 : 0 < rb
    · have : beforeB (ansX rb) 0 (ansX ra) 0 = decide (rb < ra) := by
        unfold beforeB ansX
        rw [if_neg (by omega), if_neg (by omega)]
        by_cases h : rb < ra
        · have h' : rb - 62135596800 < ra - 62135596800 := by omega
          simp [h, h']
        · have h' : ¬ rb - 62135596800 < ra - 62135596800 := by omega
          simp [h, h']
      rw [this]
    · simp [a2]
  · simp [a1]
theorem NextIs.nonneg {s : Sched} {first lim r : Int} (h : NextIs s first lim r) (hf : 1 ≤ first) : 0 ≤ r := by
  rcases h with h | ⟨rfl, -⟩
  · have := h.1; omega
  · omega
theorem stars_none {dom dow : Nat} (h1 : dom < 18446744073709551616) (h2 : dow < 18446744073709551616) {O N : Int} (hO : bits .or .u64 (dom : Int) (dow : Int) = O) (hN : bits .and .u64 O 9223372036854775808 = N) (h : (N != 0) = false) : dom.testBit 63 = false ∧ dow.testBit 63 = false := by
  rw [u64_or_nat dom dow h1 h2] at hO
  subst hO
  rw [show (9223372036854775808 : Int) = ((2 ^ 63 : Nat) : Int) from rfl, u64_and_nat (dom ||| dow) (2 ^ 63) (Nat.or_lt_two_pow (n := 64) h1 h2) (by decide)] at hN
  subst hN
  have e : (dom ||| dow) &&& 2 ^ 63 = 0 := by
    have : (((dom ||| dow) &&& 2 ^ 63 : Nat) : Int) = 0 := by simpa only [bne_eq_false_iff_eq] using h
    omega
  have k : ((dom ||| dow) &&& 2 ^ 63).testBit 63 = false := by rw [e]; simp
  rw [Nat.testBit_and, Nat.testBit_or, Nat.testBit_two_pow] at k
  simpa using k

set_option maxRecDepth 100000 in
set_option maxHeartbeats 8000000 in
theorem eitherDay_law (s : Sched) (hok : Hid s.ok) (ev : Bool) (dl sec ns : Int) (w : World) :
    Calls Try.prog 9 #[.agg #[.bool ev, .int .i64 dl, .int .u64 s.se, .int .u64 s.mi, .int .u64 s.ho, .int .u64 s.dom, .int .u64 s.mo, .int .u64 s.dow], .agg #[.int .i64 sec, .int .i64 ns]] w fun e w' => e = .returned (.bool true) ∧ Below w.heap.size w w' := by
  obtain ⟨g1, Hg1⟩ : ∃ g1, Hid ((!ev && goodB sec ns) = g1) := ⟨_, rfl⟩
  obtain ⟨O, hO⟩ : ∃ O, bits .or .u64 (s.dom : Int) (s.dow : Int) = O := ⟨_, rfl⟩
  obtain ⟨N, hN⟩ : ∃ N, bits .and .u64 O 9223372036854775808 = N := ⟨_, rfl⟩
  obtain ⟨g2, hg2⟩ : ∃ g2, (N != 0) = g2 := ⟨_, rfl⟩
  have HR9 := Lib.hid (((rws0 w).alloc _ rfl #[.bool ev, .int .i64 dl, .int .u64 s.se, .int .u64 s.mi, .int .u64 s.ho, .int .u64 s.dom, .int .u64 s.mo, .int .u64 s.dow] 38).alloc (w.heap.size + 1) (by simp) #[.int .i64 sec, .int .i64 ns] 24)
  by_cases hall : g1 = true ∧ g2 = false
  · obtain ⟨rfl, rfl⟩ := hall
    have hst := stars_none hok.out.2.2.2.1 hok.out.2.2.2.2.2 hO hN hg2
    obtain ⟨rfl, h0, h1, hn0, hn1⟩ := good_parts Hg1.out
    obtain ⟨ns, rfl⟩ : ∃ n : Nat, ns = n := ⟨ns.toNat, by omega⟩
    have hn : ns < 1000000000 := by omega
    obtain ⟨first, Hf⟩ : ∃ first, Hid (first = sec + 62135596800 + 1) := ⟨_, rfl⟩
    obtain ⟨Y0, HY0⟩ : ∃ Y0, Hid (yearOf (dayN (sec + 62135596800 + 1)) = Y0) := ⟨_, rfl⟩
    have yb0 : 1 ≤ Y0 ∧ Y0 ≤ 10000 := by have := first_year sec h0 h1; have := HY0.out; omega
    obtain ⟨r, hr0⟩ := nextIs_exists s first (Y0 + 5)
    have hr := Lib.hid hr0
    obtain ⟨x, b, hx⟩ : ∃ x b, Hid (ansX r = x ∧ ansB r = b) := ⟨_, _, Lib.hid ⟨rfl, rfl⟩⟩
    clear hr0 hn0 hn1
    obtain ⟨ra, hr0a⟩ := nextIs_exists { s with dow := starV 0 6 } first (Y0 + 5)
    have hra := Lib.hid hr0a
    obtain ⟨xa, ba, hxa⟩ : ∃ x b, Hid (ansX ra = x ∧ ansB ra = b) := ⟨_, _, Lib.hid ⟨rfl, rfl⟩⟩
    clear hr0a
    obtain ⟨rb, hr0b⟩ := nextIs_exists { s with dom := starV 1 31 } first (Y0 + 5)
    have hrb := Lib.hid hr0b
    obtain ⟨xb, bb, hxb⟩ : ∃ x b, Hid (ansX rb = x ∧ ansB rb = b) := ⟨_, _, Lib.hid ⟨rfl, rfl⟩⟩
    clear hr0b
    have hor := either_plain (either_fits s hst.1 hst.2) hr.out hra.out hrb.out (by have := Hf.out; omega)
    have hea := ear_ans ra rb (hra.out.nonneg (by have := Hf.out; omega)) (hrb.out.nonneg (by have := Hf.out; omega))
    rw [← hea, hxa.out.1, hxa.out.2, hxb.out.1, hxb.out.2] at hor
    have hE : Hid ((if earB xa ba xb bb then xb else xa) = x ∧ (if earB xa ba xb bb then bb else ba) = b) := by
      refine Lib.hid ⟨?_, ?_⟩
      · rw [← hx.out.1, hor, ← hxa.out.1, ← hxb.out.1]; split <;> rfl
      · rw [← hx.out.2, hor, ← hxa.out.2, ← hxb.out.2]; split <;> rfl
    clear hor hea hst
    have hokk := hok.out
    have hoka0 : Sched.ok { s with dow := starV 0 6 } := ⟨hokk.1, hokk.2.1, hokk.2.2.1, hokk.2.2.2.1, hokk.2.2.2.2.1, starV_lt 0 6⟩
    have hokb0 : Sched.ok { s with dom := starV 1 31 } := ⟨hokk.1, hokk.2.1, hokk.2.2.1, starV_lt 1 31, hokk.2.2.2.2.1, hokk.2.2.2.2.2⟩
    have HA5a := all_5
    have HA3a := all_3
    unfold AllIs at HA5a HA3a
    generalize starV 0 6 = V5 at *
    generalize starV 1 31 = V3 at *
    have hoka := Lib.hid hoka0
    have hokb := Lib.hid hokb0
    have HA5 := Lib.hid HA5a
    have HA3 := Lib.hid HA3a
    clear HR9 hoka0 hokb0 HA5a HA3a hokk
    go_enter Try.func9, Try.ntmps9
    go_wp2_with fail
    refine (case_any s false dl sec ns _).mono ?_
    rintro e w1 ⟨rfl, hb⟩
    rw [Hg1.out]
    have HR1 : Hid (Rws w w1 [(w.heap.size + 1, 24, #[.int .i64 sec, .int .i64 ns]), (w.heap.size, 38, #[.bool false, .int .i64 dl, .int .u64 s.se, .int .u64 s.mi, .int .u64 s.ho, .int .u64 s.dom, .int .u64 s.mo, .int .u64 s.dow])]) := Lib.hid ((((rws0 w).alloc _ rfl #[.bool false, .int .i64 dl, .int .u64 s.se, .int .u64 s.mi, .int .u64 s.ho, .int .u64 s.dom, .int .u64 s.mo, .int .u64 s.dow] 38).alloc (w.heap.size + 1) (by simp) #[.int .i64 sec, .int .i64 ns] 24).below hb)
    clear hb
    have s5 : w1.cell? ⟨w.heap.size, 5, none⟩ = some (.int .u64 s.dom) := HR1.out.at1.cell 5
    have s7 : w1.cell? ⟨w.heap.size, 7, none⟩ = some (.int .u64 s.dow) := HR1.out.at1.cell 7
    go_wp2_with fail
    clear s5 s7 hO hN hg2
    obtain ⟨L0, HL0⟩ : ∃ L0 : List (Nat × TypeId × Array Value), Hid (L0 = [(w.heap.size + 1, 24, #[.int .i64 sec, .int .i64 ns]), (w.heap.size, 38, #[.bool false, .int .i64 dl, .int .u64 s.se, .int .u64 s.mi, .int .u64 s.ho, .int .u64 s.dom, .int .u64 s.mo, .int .u64 s.dow])]) := ⟨_, rfl⟩
    rw [← HL0.out] at HR1
    refine reg_framex (fun p => [(27, .agg #[.bool false, .int .i64 dl, .int .u64 s.se, .int .u64 s.mi, .int .u64 s.ho, .int .u64 s.dom, .int .u64 s.mo, .int .u64 s.dow]), (28, .int .u64 V5), (29, .agg #[.bool false, .int .i64 dl, .int .u64 s.se, .int .u64 s.mi, .int .u64 s.ho, .int .u64 s.dom, .int .u64 s.mo, .int .u64 V5]), (30, .agg #[.int .i64 sec, .int .i64 ns]), (31, .agg #[.slice none 0 0, .slice none 0 0, .slice none 0 0, .slice none 0 0]), (32, .tuple #[.agg #[.int .i64 xa, .int .i64 0], .bool ba]), (26, .tuple #[.agg #[.int .i64 xa, .int .i64 0], .bool ba]), (33, .agg #[.int .i64 xa, .int .i64 0]), (34, .bool ba), (5, .pointer (some ⟨p, 0, none⟩)), (6, .bool ba)]) (fun p w' => Rws w w' ((p, 24, #[.int .i64 xa, .int .i64 0]) :: L0)) ?reg ?hq
    case reg =>
      have HFd : Hid (Rws w w1.drew L0) := Lib.hid HR1.out.drew
      refine wp_region_held_drew (S := fun w' => Hid (Rws w w' L0)) (by kernel_rfl) HFd (fun hHeld => ?_)
      generalize w1.drew = Wd at HFd hHeld ⊢
      (try simp only [Act.put, List.getElem_toArray, List.getElem_cons_zero, List.getElem_cons_succ, List.setIfInBounds_toArray, List.set_cons_zero, List.set_cons_succ])
      refine wpAnyH_take (i := 0) (v := ?_) rfl (by kernel_rfl) (by kernel_rfl) (by kernel_rfl) (fun _ _ _ h => nomatch h.1) (Or.inl ⟨by rfl, ?_⟩) (by assumption) ?_
      rotate_left
      · (intro wx hSw; have hSx := hSw.out; rw [HL0.out] at hSx; have k0 : wx.cell? ⟨w.heap.size, 0, none⟩ = some (.bool false) := hSx.tail.at0.cell 0; have k1 : wx.cell? ⟨w.heap.size, 1, none⟩ = some (.int .i64 dl) := hSx.tail.at0.cell 1; have k2 : wx.cell? ⟨w.heap.size, 2, none⟩ = some (.int .u64 s.se) := hSx.tail.at0.cell 2; have k3 : wx.cell? ⟨w.heap.size, 3, none⟩ = some (.int .u64 s.mi) := hSx.tail.at0.cell 3; have k4 : wx.cell? ⟨w.heap.size, 4, none⟩ = some (.int .u64 s.ho) := hSx.tail.at0.cell 4; have k5 : wx.cell? ⟨w.heap.size, 5, none⟩ = some (.int .u64 s.dom) := hSx.tail.at0.cell 5; have k6 : wx.cell? ⟨w.heap.size, 6, none⟩ = some (.int .u64 s.mo) := hSx.tail.at0.cell 6; have k7 : wx.cell? ⟨w.heap.size, 7, none⟩ = some (.int .u64 s.dow) := hSx.tail.at0.cell 7; go_simp; (try with_reducible rfl))
      (try simp only [Act.put, List.getElem_toArray, List.getElem_cons_zero, List.getElem_cons_succ, List.setIfInBounds_toArray, List.set_cons_zero, List.set_cons_succ])
      refine wpAnyH_take (i := 3) (v := ?_) rfl (by kernel_rfl) (by kernel_rfl) (by kernel_rfl) (fun _ _ _ h => nomatch h.1) (Or.inl ⟨by rfl, ?_⟩) (by assumption) ?_
      rotate_left
      · (intro wx hSw; have hSx := hSw.out; rw [HL0.out] at hSx; have k0 : wx.cell? ⟨w.heap.size + 1, 0, none⟩ = some (.int .i64 sec) := hSx.at0.cell 0; have k1 : wx.cell? ⟨w.heap.size + 1, 1, none⟩ = some (.int .i64 ns) := hSx.at0.cell 1; go_simp; (try with_reducible rfl))
      (try simp only [Act.put, List.getElem_toArray, List.getElem_cons_zero, List.getElem_cons_succ, List.setIfInBounds_toArray, List.set_cons_zero, List.set_cons_succ])
      refine wpAnyH_ready (rs := [1, 9]) (by kernel_rfl) (by simp) ?_
      refine (AllReadyH.cons rfl (fun K hK => ?_) (AllReadyH.cons rfl (fun K hK => ?_) AllReadyH.nil))
      · go_simp
        go_at_call 14
        refine (HA5.out _).mono ?_
        rintro e v1 ⟨rfl, hb⟩
        have HF1 : Hid (Rws w v1 L0) := Lib.hid (HFd.out.below hb)
        clear hb HFd
        have HN : Hid (Rws w v1 L0) := Lib.hid HF1.out
        refine hK.out _ _ HN (fun hH2 => ?_)
        clear hK K hHeld
        have hHeld := hH2
        clear hH2
        (try simp only [Act.put, List.getElem_toArray, List.getElem_cons_zero, List.getElem_cons_succ, List.setIfInBounds_toArray, List.set_cons_zero, List.set_cons_succ])
        refine wpAnyH_ready (rs := [2, 9]) (by kernel_rfl) (by simp) ?_
        refine (AllReadyH.cons rfl (fun K hK => ?_) (AllReadyH.cons rfl (fun K hK => ?_) AllReadyH.nil))
        · go_simp
          go_at_call 31
          refine (with_dow s dl V5 _).mono ?_
          rintro e v2 ⟨rfl, hb⟩
          have HF2 : Hid (Rws w v2 L0) := Lib.hid (HF1.out.below hb)
          clear hb HF1
          have HN : Hid (Rws w v2 L0) := Lib.hid HF2.out
          refine hK.out _ _ HN (fun hH2 => ?_)
          clear hK K hHeld
          have hHeld := hH2
          clear hH2
          (try simp only [Act.put, List.getElem_toArray, List.getElem_cons_zero, List.getElem_cons_succ, List.setIfInBounds_toArray, List.set_cons_zero, List.set_cons_succ])
          refine wpAnyH_ready (rs := [4, 9]) (by kernel_rfl) (by simp) ?_
          refine (AllReadyH.cons rfl (fun K hK => ?_) (AllReadyH.cons rfl (fun K hK => ?_) AllReadyH.nil))
          · go_simp
            go_at_call 19
            refine (cronUTC_any _).mono ?_
            rintro e v3 ⟨rfl, hb⟩
            have HF3 : Hid (Rws w v3 L0) := Lib.hid (HF2.out.below hb)
            clear hb HF2
            have HN : Hid (Rws w v3 L0) := Lib.hid HF3.out
            refine hK.out _ _ HN (fun hH2 => ?_)
            clear hK K hHeld
            have hHeld := hH2
            clear hH2
            (try simp only [Act.put, List.getElem_toArray, List.getElem_cons_zero, List.getElem_cons_succ, List.setIfInBounds_toArray, List.set_cons_zero, List.set_cons_succ])
            refine wpAnyH_ready (rs := [5, 9]) (by kernel_rfl) (by simp) ?_
            refine (AllReadyH.cons rfl (fun K hK => ?_) (AllReadyH.cons rfl (fun K hK => ?_) AllReadyH.nil))
            · go_simp
              go_at_call 20
              refine (implNext_fix ({ s with dow := V5 } : Sched) sec ns h0 h1 first Y0 Hf HY0 yb0 ra xa ba hra hxa hoka dl hn _).mono ?_
              rintro e v4 ⟨rfl, hb⟩
              have HF4 : Hid (Rws w v4 L0) := Lib.hid (HF3.out.below hb)
              clear hb HF3
              have HN : Hid (Rws w v4 L0) := Lib.hid HF4.out
              refine hK.out _ _ HN (fun hH2 => ?_)
              clear hK K hHeld
              have hHeld := hH2
              clear hH2
              (try simp only [Act.put, List.getElem_toArray, List.getElem_cons_zero, List.getElem_cons_succ, List.setIfInBounds_toArray, List.set_cons_zero, List.set_cons_succ])
              refine wpAnyH_take (i := 6) (v := ?_) rfl (by kernel_rfl) (by kernel_rfl) (by kernel_rfl) (fun _ _ _ h => nomatch h.1) (Or.inl ⟨by rfl, ?_⟩) (by assumption) ?_
              rotate_left
              · (intro wx hSw; go_simp; (try with_reducible rfl))
              (try simp only [Act.put, List.getElem_toArray, List.getElem_cons_zero, List.getElem_cons_succ, List.setIfInBounds_toArray, List.set_cons_zero, List.set_cons_succ])
              refine wpAnyH_take (i := 7) (v := ?_) rfl (by kernel_rfl) (by kernel_rfl) (by kernel_rfl) (fun _ _ _ h => nomatch h.1) (Or.inl ⟨by rfl, ?_⟩) (by assumption) ?_
              rotate_left
              · (intro wx hSw; go_simp; (try with_reducible rfl))
              (try simp only [Act.put, List.getElem_toArray, List.getElem_cons_zero, List.getElem_cons_succ, List.setIfInBounds_toArray, List.set_cons_zero, List.set_cons_succ])
              refine wpAnyH_take (i := 8) (v := ?_) rfl (by kernel_rfl) (by kernel_rfl) (by kernel_rfl) (fun _ _ _ h => nomatch h.1) (Or.inl ⟨by rfl, ?_⟩) (by assumption) ?_
              rotate_left
              · (intro wx hSw; go_simp; (try with_reducible rfl))
              (try simp only [Act.put, List.getElem_toArray, List.getElem_cons_zero, List.getElem_cons_succ, List.setIfInBounds_toArray, List.set_cons_zero, List.set_cons_succ])
              refine wpAnyH_ready (rs := [9]) (by kernel_rfl) (by simp) ?_
              refine (AllReadyH.cons rfl (fun K hK => ?_) AllReadyH.nil)
              go_simp
              obtain ⟨p5, hp⟩ : ∃ p5, p5 = v4.heap.size := ⟨_, rfl⟩
              (try rw [← hp])
              have HLp5 : Hid ((∀ r ∈ L0, r.1 < p5) ∧ w.heap.size ≤ p5) := Lib.hid ⟨by rw [hp]; exact HF4.out.lt, by rw [hp]; exact HF4.out.2.size⟩
              have HF5 : Hid (Rws w (v4.alloc (.cells #[.int .i64 0, .int .i64 0] 24)) ((p5, 24, #[.int .i64 0, .int .i64 0]) :: L0)) := Lib.hid (HF4.out.alloc p5 hp _ _)
              clear HF4 hp
              refine kHeld hK.out (W := v4.alloc (.cells #[.int .i64 0, .int .i64 0] 24)) (Lib.hid HF5.out.tail) (fun hH2 => ?_)
              clear hK K hHeld
              have hHeld := hH2
              clear hH2
              generalize v4.alloc (.cells #[.int .i64 0, .int .i64 0] 24) = a5 at hHeld HF5 ⊢
              (try simp only [Act.put, List.getElem_toArray, List.getElem_cons_zero, List.getElem_cons_succ, List.setIfInBounds_toArray, List.set_cons_zero, List.set_cons_succ])
              refine wpAnyH_ready (rs := [10]) (by kernel_rfl) (by simp) ?_
              refine (AllReadyH.cons rfl (fun K hK => ?_) AllReadyH.nil)
              have c0 : a5.cell? ⟨p5, 0, none⟩ = some (.int .i64 0) := HF5.out.at0.cell 0
              have c1 : a5.cell? ⟨p5, 1, none⟩ = some (.int .i64 0) := HF5.out.at0.cell 1
              have f0 := HF5.out.at0.free 0
              have f1 := HF5.out.at0.free 1
              have HE : Hid (Rws w ((a5.setCell ⟨p5, 0, none⟩ (.int .i64 xa)).setCell ⟨p5, 1, none⟩ (.int .i64 0)) ((p5, 24, #[.int .i64 xa, .int .i64 0]) :: L0)) := Lib.hid (HF5.out.set2 HLp5.out.1 HLp5.out.2 _ _)
              have HN : Hid (Rws w ((a5.setCell ⟨p5, 0, none⟩ (.int .i64 xa)).setCell ⟨p5, 1, none⟩ (.int .i64 0)) L0) := Lib.hid HE.out.tail
              go_simp
              refine hK.out _ _ HN (fun hH2 => ?_)
              clear hK K hHeld
              have hHeld := hH2
              clear hH2
              (try simp only [Act.put, List.getElem_toArray, List.getElem_cons_zero, List.getElem_cons_succ, List.setIfInBounds_toArray, List.set_cons_zero, List.set_cons_succ])
              refine wpAnyH_take (i := 11) (v := ?_) rfl (by kernel_rfl) (by kernel_rfl) (by kernel_rfl) (fun _ _ _ h => nomatch h.1) (Or.inl ⟨by rfl, ?_⟩) (by assumption) ?_
              rotate_left
              · (intro wx hSw; go_simp; (try with_reducible rfl))
              (try simp only [Act.put, List.getElem_toArray, List.getElem_cons_zero, List.getElem_cons_succ, List.setIfInBounds_toArray, List.set_cons_zero, List.set_cons_succ])
              refine wpAnyH_done (by kernel_rfl) ?_ _
              exact ⟨rfl, p5, by (simp only [puts, Act.put, List.setIfInBounds_toArray, List.set_cons_zero, List.set_cons_succ]), HE.out⟩
            · go_simp
              obtain ⟨p6, hp⟩ : ∃ p6, p6 = v3.heap.size := ⟨_, rfl⟩
              (try rw [← hp])
              have HLp6 : Hid ((∀ r ∈ L0, r.1 < p6) ∧ w.heap.size ≤ p6) := Lib.hid ⟨by rw [hp]; exact HF3.out.lt, by rw [hp]; exact HF3.out.2.size⟩
              have HF6 : Hid (Rws w (v3.alloc (.cells #[.int .i64 0, .int .i64 0] 24)) ((p6, 24, #[.int .i64 0, .int .i64 0]) :: L0)) := Lib.hid (HF3.out.alloc p6 hp _ _)
              clear HF3 hp
              refine kHeld hK.out (W := v3.alloc (.cells #[.int .i64 0, .int .i64 0] 24)) (Lib.hid HF6.out.tail) (fun hH2 => ?_)
              clear hK K hHeld
              have hHeld := hH2
              clear hH2
              generalize v3.alloc (.cells #[.int .i64 0, .int .i64 0] 24) = a6 at hHeld HF6 ⊢
              (try simp only [Act.put, List.getElem_toArray, List.getElem_cons_zero, List.getElem_cons_succ, List.setIfInBounds_toArray, List.set_cons_zero, List.set_cons_succ])
              refine wpAnyH_ready (rs := [5]) (by kernel_rfl) (by simp) ?_
              refine (AllReadyH.cons rfl (fun K hK => ?_) AllReadyH.nil)
              go_simp
              go_at_call 20
              refine (implNext_fix ({ s with dow := V5 } : Sched) sec ns h0 h1 first Y0 Hf HY0 yb0 ra xa ba hra hxa hoka dl hn _).mono ?_
              rintro e v7 ⟨rfl, hb⟩
              have HF7 : Hid (Rws w v7 ((p6, 24, #[.int .i64 0, .int .i64 0]) :: L0)) := Lib.hid (HF6.out.below hb)
              clear hb HF6
              have HN : Hid (Rws w v7 L0) := Lib.hid HF7.out.tail
              refine hK.out _ _ HN (fun hH2 => ?_)
              clear hK K hHeld
              have hHeld := hH2
              clear hH2
              (try simp only [Act.put, List.getElem_toArray, List.getElem_cons_zero, List.getElem_cons_succ, List.setIfInBounds_toArray, List.set_cons_zero, List.set_cons_succ])
              refine wpAnyH_take (i := 6) (v := ?_) rfl (by kernel_rfl) (by kernel_rfl) (by kernel_rfl) (fun _ _ _ h => nomatch h.1) (Or.inl ⟨by rfl, ?_⟩) (by assumption) ?_
              rotate_left
              · (intro wx hSw; go_simp; (try with_reducible rfl))
              (try simp only [Act.put, List.getElem_toArray, List.getElem_cons_zero, List.getElem_cons_succ, List.setIfInBounds_toArray, List.set_cons_zero, List.set_cons_succ])
              refine wpAnyH_take (i := 7) (v := ?_) rfl (by kernel_rfl) (by kernel_rfl) (by kernel_rfl) (fun _ _ _ h => nomatch h.1) (Or.inl ⟨by rfl, ?_⟩) (by assumption) ?_
              rotate_left
              · (intro wx hSw; go_simp; (try with_reducible rfl))
              (try simp only [Act.put, List.getElem_toArray, List.getElem_cons_zero, List.getElem_cons_succ, List.setIfInBounds_toArray, List.set_cons_zero, List.set_cons_succ])
              refine wpAnyH_take (i := 8) (v := ?_) rfl (by kernel_rfl) (by kernel_rfl) (by kernel_rfl) (fun _ _ _ h => nomatch h.1) (Or.inl ⟨by rfl, ?_⟩) (by assumption) ?_
              rotate_left
              · (intro wx hSw; go_simp; (try with_reducible rfl))
              (try simp only [Act.put, List.getElem_toArray, List.getElem_cons_zero, List.getElem_cons_succ, List.setIfInBounds_toArray, List.set_cons_zero, List.set_cons_succ])
              refine wpAnyH_ready (rs := [10]) (by kernel_rfl) (by simp) ?_
              refine (AllReadyH.cons rfl (fun K hK => ?_) AllReadyH.nil)
              have c0 : v7.cell? ⟨p6, 0, none⟩ = some (.int .i64 0) := HF7.out.at0.cell 0
              have c1 : v7.cell? ⟨p6, 1, none⟩ = some (.int .i64 0) := HF7.out.at0.cell 1
              have f0 := HF7.out.at0.free 0
              have f1 := HF7.out.at0.free 1
              have HE : Hid (Rws w ((v7.setCell ⟨p6, 0, none⟩ (.int .i64 xa)).setCell ⟨p6, 1, none⟩ (.int .i64 0)) ((p6, 24, #[.int .i64 xa, .int .i64 0]) :: L0)) := Lib.hid (HF7.out.set2 HLp6.out.1 HLp6.out.2 _ _)
              have HN : Hid (Rws w ((v7.setCell ⟨p6, 0, none⟩ (.int .i64 xa)).setCell ⟨p6, 1, none⟩ (.int .i64 0)) L0) := Lib.hid HE.out.tail
              go_simp
              refine hK.out _ _ HN (fun hH2 => ?_)
              clear hK K hHeld
              have hHeld := hH2
              clear hH2
              (try simp only [Act.put, List.getElem_toArray, List.getElem_cons_zero, List.getElem_cons_succ, List.setIfInBounds_toArray, List.set_cons_zero, List.set_cons_succ])
              refine wpAnyH_take (i := 11) (v := ?_) rfl (by kernel_rfl) (by kernel_rfl) (by kernel_rfl) (fun _ _ _ h => nomatch h.1) (Or.inl ⟨by rfl, ?_⟩) (by assumption) ?_
              rotate_left
              · (intro wx hSw; go_simp; (try with_reducible rfl))
              (try simp only [Act.put, List.getElem_toArray, List.getElem_cons_zero, List.getElem_cons_succ, List.setIfInBounds_toArray, List.set_cons_zero, List.set_cons_succ])
              refine wpAnyH_done (by kernel_rfl) ?_ _
              exact ⟨rfl, p6, by (simp only [puts, Act.put, List.setIfInBounds_toArray, List.set_cons_zero, List.set_cons_succ]), HE.out⟩
          · go_simp
            obtain ⟨p8, hp⟩ : ∃ p8, p8 = v2.heap.size := ⟨_, rfl⟩
            (try rw [← hp])
            have HLp8 : Hid ((∀ r ∈ L0, r.1 < p8) ∧ w.heap.size ≤ p8) := Lib.hid ⟨by rw [hp]; exact HF2.out.lt, by rw [hp]; exact HF2.out.2.size⟩
            have HF8 : Hid (Rws w (v2.alloc (.cells #[.int .i64 0, .int .i64 0] 24)) ((p8, 24, #[.int .i64 0, .int .i64 0]) :: L0)) := Lib.hid (HF2.out.alloc p8 hp _ _)
            clear HF2 hp
            refine kHeld hK.out (W := v2.alloc (.cells #[.int .i64 0, .int .i64 0] 24)) (Lib.hid HF8.out.tail) (fun hH2 => ?_)
            clear hK K hHeld
            have hHeld := hH2
            clear hH2
            generalize v2.alloc (.cells #[.int .i64 0, .int .i64 0] 24) = a8 at hHeld HF8 ⊢
            (try simp only [Act.put, List.getElem_toArray, List.getElem_cons_zero, List.getElem_cons_succ, List.setIfInBounds_toArray, List.set_cons_zero, List.set_cons_succ])
            refine wpAnyH_ready (rs := [4]) (by kernel_rfl) (by simp) ?_
            refine (AllReadyH.cons rfl (fun K hK => ?_) AllReadyH.nil)
            go_simp
            go_at_call 19
            refine (cronUTC_any _).mono ?_
            rintro e v9 ⟨rfl, hb⟩
            have HF9 : Hid (Rws w v9 ((p8, 24, #[.int .i64 0, .int .i64 0]) :: L0)) := Lib.hid (HF8.out.below hb)
            clear hb HF8
            have HN : Hid (Rws w v9 L0) := Lib.hid HF9.out.tail
            refine hK.out _ _ HN (fun hH2 => ?_)
            clear hK K hHeld
            have hHeld := hH2
            clear hH2
            (try simp only [Act.put, List.getElem_toArray, List.getElem_cons_zero, List.getElem_cons_succ, List.setIfInBounds_toArray, List.set_cons_zero, List.set_cons_succ])
            refine wpAnyH_ready (rs := [5]) (by kernel_rfl) (by simp) ?_
            refine (AllReadyH.cons rfl (fun K hK => ?_) AllReadyH.nil)
            go_simp
            go_at_call 20
            refine (implNext_fix ({ s with dow := V5 } : Sched) sec ns h0 h1 first Y0 Hf HY0 yb0 ra xa ba hra hxa hoka dl hn _).mono ?_
            rintro e v10 ⟨rfl, hb⟩
            have HF10 : Hid (Rws w v10 ((p8, 24, #[.int .i64 0, .int .i64 0]) :: L0)) := Lib.hid (HF9.out.below hb)
            clear hb HF9
            have HN : Hid (Rws w v10 L0) := Lib.hid HF10.out.tail
            refine hK.out _ _ HN (fun hH2 => ?_)
            clear hK K hHeld
            have hHeld := hH2
            clear hH2
            (try simp only [Act.put, List.getElem_toArray, List.getElem_cons_zero, List.getElem_cons_succ, List.setIfInBounds_toArray, List.set_cons_zero, List.set_cons_succ])
            refine wpAnyH_take (i := 6) (v := ?_) rfl (by kernel_rfl) (by kernel_rfl) (by kernel_rfl) (fun _ _ _ h => nomatch h.1) (Or.inl ⟨by rfl, ?_⟩) (by assumption) ?_
            rotate_left
            · (intro wx hSw; go_simp; (try with_reducible rfl))
            (try simp only [Act.put, List.getElem_toArray, List.getElem_cons_zero, List.getElem_cons_succ, List.setIfInBounds_toArray, List.set_cons_zero, List.set_cons_succ])
            refine wpAnyH_take (i := 7) (v := ?_) rfl (by kernel_rfl) (by kernel_rfl) (by kernel_rfl) (fun _ _ _ h => nomatch h.1) (Or.inl ⟨by rfl, ?_⟩) (by assumption) ?_
            rotate_left
            · (intro wx hSw; go_simp; (try with_reducible rfl))
            (try simp only [Act.put, List.getElem_toArray, List.getElem_cons_zero, List.getElem_cons_succ, List.setIfInBounds_toArray, List.set_cons_zero, List.set_cons_succ])
            refine wpAnyH_take (i := 8) (v := ?_) rfl (by kernel_rfl) (by kernel_rfl) (by kernel_rfl) (fun _ _ _ h => nomatch h.1) (Or.inl ⟨by rfl, ?_⟩) (by assumption) ?_
            rotate_left
            · (intro wx hSw; go_simp; (try with_reducible rfl))
            (try simp only [Act.put, List.getElem_toArray, List.getElem_cons_zero, List.getElem_cons_succ, List.setIfInBounds_toArray, List.set_cons_zero, List.set_cons_succ])
            refine wpAnyH_ready (rs := [10]) (by kernel_rfl) (by simp) ?_
            refine (AllReadyH.cons rfl (fun K hK => ?_) AllReadyH.nil)
            have c0 : v10.cell? ⟨p8, 0, none⟩ = some (.int .i64 0) := HF10.out.at0.cell 0
            have c1 : v10.cell? ⟨p8, 1, none⟩ = some (.int .i64 0) := HF10.out.at0.cell 1
            have f0 := HF10.out.at0.free 0
            have f1 := HF10.out.at0.free 1
            have HE : Hid (Rws w ((v10.setCell ⟨p8, 0, none⟩ (.int .i64 xa)).setCell ⟨p8, 1, none⟩ (.int .i64 0)) ((p8, 24, #[.int .i64 xa, .int .i64 0]) :: L0)) := Lib.hid (HF10.out.set2 HLp8.out.1 HLp8.out.2 _ _)
            have HN : Hid (Rws w ((v10.setCell ⟨p8, 0, none⟩ (.int .i64 xa)).setCell ⟨p8, 1, none⟩ (.int .i64 0)) L0) := Lib.hid HE.out.tail
            go_simp
            refine hK.out _ _ HN (fun hH2 => ?_)
            clear hK K hHeld
            have hHeld := hH2
            clear hH2
            (try simp only [Act.put, List.getElem_toArray, List.getElem_cons_zero, List.getElem_cons_succ, List.setIfInBounds_toArray, List.set_cons_zero, List.set_cons_succ])
            refine wpAnyH_take (i := 11) (v := ?_) rfl (by kernel_rfl) (by kernel_rfl) (by kernel_rfl) (fun _ _ _ h => nomatch h.1) (Or.inl ⟨by rfl, ?_⟩) (by assumption) ?_
            rotate_left
            · (intro wx hSw; go_simp; (try with_reducible rfl))
            (try simp only [Act.put, List.getElem_toArray, List.getElem_cons_zero, List.getElem_cons_succ, List.setIfInBounds_toArray, List.set_cons_zero, List.set_cons_succ])
            refine wpAnyH_done (by kernel_rfl) ?_ _
            exact ⟨rfl, p8, by (simp only [puts, Act.put, List.setIfInBounds_toArray, List.set_cons_zero, List.set_cons_succ]), HE.out⟩
        · go_simp
          obtain ⟨p11, hp⟩ : ∃ p11, p11 = v1.heap.size := ⟨_, rfl⟩
          (try rw [← hp])
          have HLp11 : Hid ((∀ r ∈ L0, r.1 < p11) ∧ w.heap.size ≤ p11) := Lib.hid ⟨by rw [hp]; exact HF1.out.lt, by rw [hp]; exact HF1.out.2.size⟩
          have HF11 : Hid (Rws w (v1.alloc (.cells #[.int .i64 0, .int .i64 0] 24)) ((p11, 24, #[.int .i64 0, .int .i64 0]) :: L0)) := Lib.hid (HF1.out.alloc p11 hp _ _)
          clear HF1 hp
          refine kHeld hK.out (W := v1.alloc (.cells #[.int .i64 0, .int .i64 0] 24)) (Lib.hid HF11.out.tail) (fun hH2 => ?_)
          clear hK K hHeld
          have hHeld := hH2
          clear hH2
          generalize v1.alloc (.cells #[.int .i64 0, .int .i64 0] 24) = a11 at hHeld HF11 ⊢
          (try simp only [Act.put, List.getElem_toArray, List.getElem_cons_zero, List.getElem_cons_succ, List.setIfInBounds_toArray, List.set_cons_zero, List.set_cons_succ])
          refine wpAnyH_ready (rs := [2]) (by kernel_rfl) (by simp) ?_
          refine (AllReadyH.cons rfl (fun K hK => ?_) AllReadyH.nil)
          go_simp
          go_at_call 31
          refine (with_dow s dl V5 _).mono ?_
          rintro e v12 ⟨rfl, hb⟩
          have HF12 : Hid (Rws w v12 ((p11, 24, #[.int .i64 0, .int .i64 0]) :: L0)) := Lib.hid (HF11.out.below hb)
          clear hb HF11
          have HN : Hid (Rws w v12 L0) := Lib.hid HF12.out.tail
          refine hK.out _ _ HN (fun hH2 => ?_)
          clear hK K hHeld
          have hHeld := hH2
          clear hH2
          (try simp only [Act.put, List.getElem_toArray, List.getElem_cons_zero, List.getElem_cons_succ, List.setIfInBounds_toArray, List.set_cons_zero, List.set_cons_succ])
          refine wpAnyH_ready (rs := [4]) (by kernel_rfl) (by simp) ?_
          refine (AllReadyH.cons rfl (fun K hK => ?_) AllReadyH.nil)
          go_simp
          go_at_call 19
          refine (cronUTC_any _).mono ?_
          rintro e v13 ⟨rfl, hb⟩
          have HF13 : Hid (Rws w v13 ((p11, 24, #[.int .i64 0, .int .i64 0]) :: L0)) := Lib.hid (HF12.out.below hb)
          clear hb HF12
          have HN : Hid (Rws w v13 L0) := Lib.hid HF13.out.tail
          refine hK.out _ _ HN (fun hH2 => ?_)
          clear hK K hHeld
          have hHeld := hH2
          clear hH2
          (try simp only [Act.put, List.getElem_toArray, List.getElem_cons_zero, List.getElem_cons_succ, List.setIfInBounds_toArray, List.set_cons_zero, List.set_cons_succ])
          refine wpAnyH_ready (rs := [5]) (by kernel_rfl) (by simp) ?_
          refine (AllReadyH.cons rfl (fun K hK => ?_) AllReadyH.nil)
          go_simp
          go_at_call 20
          refine (implNext_fix ({ s with dow := V5 } : Sched) sec ns h0 h1 first Y0 Hf HY0 yb0 ra xa ba hra hxa hoka dl hn _).mono ?_
          rintro e v14 ⟨rfl, hb⟩
          have HF14 : Hid (Rws w v14 ((p11, 24, #[.int .i64 0, .int .i64 0]) :: L0)) := Lib.hid (HF13.out.below hb)
          clear hb HF13
          have HN : Hid (Rws w v14 L0) := Lib.hid HF14.out.tail
          refine hK.out _ _ HN (fun hH2 => ?_)
          clear hK K hHeld
          have hHeld := hH2
          clear hH2
          (try simp only [Act.put, List.getElem_toArray, List.getElem_cons_zero, List.getElem_cons_succ, List.setIfInBounds_toArray, List.set_cons_zero, List.set_cons_succ])
          refine wpAnyH_take (i := 6) (v := ?_) rfl (by kernel_rfl) (by kernel_rfl) (by kernel_rfl) (fun _ _ _ h => nomatch h.1) (Or.inl ⟨by rfl, ?_⟩) (by assumption) ?_
          rotate_left
          · (intro wx hSw; go_simp; (try with_reducible rfl))
          (try simp only [Act.put, List.getElem_toArray, List.getElem_cons_zero, List.getElem_cons_succ, List.setIfInBounds_toArray, List.set_cons_zero, List.set_cons_succ])
          refine wpAnyH_take (i := 7) (v := ?_) rfl (by kernel_rfl) (by kernel_rfl) (by kernel_rfl) (fun _ _ _ h => nomatch h.1) (Or.inl ⟨by rfl, ?_⟩) (by assumption) ?_
          rotate_left
          · (intro wx hSw; go_simp; (try with_reducible rfl))
          (try simp only [Act.put, List.getElem_toArray, List.getElem_cons_zero, List.getElem_cons_succ, List.setIfInBounds_toArray, List.set_cons_zero, List.set_cons_succ])
          refine wpAnyH_take (i := 8) (v := ?_) rfl (by kernel_rfl) (by kernel_rfl) (by kernel_rfl) (fun _ _ _ h => nomatch h.1) (Or.inl ⟨by rfl, ?_⟩) (by assumption) ?_
          rotate_left
          · (intro wx hSw; go_simp; (try with_reducible rfl))
          (try simp only [Act.put, List.getElem_toArray, List.getElem_cons_zero, List.getElem_cons_succ, List.setIfInBounds_toArray, List.set_cons_zero, List.set_cons_succ])
          refine wpAnyH_ready (rs := [10]) (by kernel_rfl) (by simp) ?_
          refine (AllReadyH.cons rfl (fun K hK => ?_) AllReadyH.nil)
          have c0 : v14.cell? ⟨p11, 0, none⟩ = some (.int .i64 0) := HF14.out.at0.cell 0
          have c1 : v14.cell? ⟨p11, 1, none⟩ = some (.int .i64 0) := HF14.out.at0.cell 1
          have f0 := HF14.out.at0.free 0
          have f1 := HF14.out.at0.free 1
          have HE : Hid (Rws w ((v14.setCell ⟨p11, 0, none⟩ (.int .i64 xa)).setCell ⟨p11, 1, none⟩ (.int .i64 0)) ((p11, 24, #[.int .i64 xa, .int .i64 0]) :: L0)) := Lib.hid (HF14.out.set2 HLp11.out.1 HLp11.out.2 _ _)
          have HN : Hid (Rws w ((v14.setCell ⟨p11, 0, none⟩ (.int .i64 xa)).setCell ⟨p11, 1, none⟩ (.int .i64 0)) L0) := Lib.hid HE.out.tail
          go_simp
          refine hK.out _ _ HN (fun hH2 => ?_)
          clear hK K hHeld
          have hHeld := hH2
          clear hH2
          (try simp only [Act.put, List.getElem_toArray, List.getElem_cons_zero, List.getElem_cons_succ, List.setIfInBounds_toArray, List.set_cons_zero, List.set_cons_succ])
          refine wpAnyH_take (i := 11) (v := ?_) rfl (by kernel_rfl) (by kernel_rfl) (by kernel_rfl) (fun _ _ _ h => nomatch h.1) (Or.inl ⟨by rfl, ?_⟩) (by assumption) ?_
          rotate_left
          · (intro wx hSw; go_simp; (try with_reducible rfl))
          (try simp only [Act.put, List.getElem_toArray, List.getElem_cons_zero, List.getElem_cons_succ, List.setIfInBounds_toArray, List.set_cons_zero, List.set_cons_succ])
          refine wpAnyH_done (by kernel_rfl) ?_ _
          exact ⟨rfl, p11, by (simp only [puts, Act.put, List.setIfInBounds_toArray, List.set_cons_zero, List.set_cons_succ]), HE.out⟩
      · go_simp
        obtain ⟨p15, hp⟩ : ∃ p15, p15 = Wd.heap.size := ⟨_, rfl⟩
        (try rw [← hp])
        have HLp15 : Hid ((∀ r ∈ L0, r.1 < p15) ∧ w.heap.size ≤ p15) := Lib.hid ⟨by rw [hp]; exact HFd.out.lt, by rw [hp]; exact HFd.out.2.size⟩
        have HF15 : Hid (Rws w (Wd.alloc (.cells #[.int .i64 0, .int .i64 0] 24)) ((p15, 24, #[.int .i64 0, .int .i64 0]) :: L0)) := Lib.hid (HFd.out.alloc p15 hp _ _)
        clear HFd hp
        refine kHeld hK.out (W := Wd.alloc (.cells #[.int .i64 0, .int .i64 0] 24)) (Lib.hid HF15.out.tail) (fun hH2 => ?_)
        clear hK K hHeld
        have hHeld := hH2
        clear hH2
        generalize Wd.alloc (.cells #[.int .i64 0, .int .i64 0] 24) = a15 at hHeld HF15 ⊢
        (try simp only [Act.put, List.getElem_toArray, List.getElem_cons_zero, List.getElem_cons_succ, List.setIfInBounds_toArray, List.set_cons_zero, List.set_cons_succ])
        refine wpAnyH_ready (rs := [1]) (by kernel_rfl) (by simp) ?_
        refine (AllReadyH.cons rfl (fun K hK => ?_) AllReadyH.nil)
        go_simp
        go_at_call 14
        refine (HA5.out _).mono ?_
        rintro e v16 ⟨rfl, hb⟩
        have HF16 : Hid (Rws w v16 ((p15, 24, #[.int .i64 0, .int .i64 0]) :: L0)) := Lib.hid (HF15.out.below hb)
        clear hb HF15
        have HN : Hid (Rws w v16 L0) := Lib.hid HF16.out.tail
        refine hK.out _ _ HN (fun hH2 => ?_)
        clear hK K hHeld
        have hHeld := hH2
        clear hH2
        (try simp only [Act.put, List.getElem_toArray, List.getElem_cons_zero, List.getElem_cons_succ, List.setIfInBounds_toArray, List.set_cons_zero, List.set_cons_succ])
        refine wpAnyH_ready (rs := [2]) (by kernel_rfl) (by simp) ?_
        refine (AllReadyH.cons rfl (fun K hK => ?_) AllReadyH.nil)
        go_simp
        go_at_call 31
        refine (with_dow s dl V5 _).mono ?_
        rintro e v17 ⟨rfl, hb⟩
        have HF17 : Hid (Rws w v17 ((p15, 24, #[.int .i64 0, .int .i64 0]) :: L0)) := Lib.hid (HF16.out.below hb)
        clear hb HF16
        have HN : Hid (Rws w v17 L0) := Lib.hid HF17.out.tail
        refine hK.out _ _ HN (fun hH2 => ?_)
        clear hK K hHeld
        have hHeld := hH2
        clear hH2
        (try simp only [Act.put, List.getElem_toArray, List.getElem_cons_zero, List.getElem_cons_succ, List.setIfInBounds_toArray, List.set_cons_zero, List.set_cons_succ])
        refine wpAnyH_ready (rs := [4]) (by kernel_rfl) (by simp) ?_
        refine (AllReadyH.cons rfl (fun K hK => ?_) AllReadyH.nil)
        go_simp
        go_at_call 19
        refine (cronUTC_any _).mono ?_
        rintro e v18 ⟨rfl, hb⟩
        have HF18 : Hid (Rws w v18 ((p15, 24, #[.int .i64 0, .int .i64 0]) :: L0)) := Lib.hid (HF17.out.below hb)
        clear hb HF17
        have HN : Hid (Rws w v18 L0) := Lib.hid HF18.out.tail
        refine hK.out _ _ HN (fun hH2 => ?_)
        clear hK K hHeld
        have hHeld := hH2
        clear hH2
        (try simp only [Act.put, List.getElem_toArray, List.getElem_cons_zero, List.getElem_cons_succ, List.setIfInBounds_toArray, List.set_cons_zero, List.set_cons_succ])
        refine wpAnyH_ready (rs := [5]) (by kernel_rfl) (by simp) ?_
        refine (AllReadyH.cons rfl (fun K hK => ?_) AllReadyH.nil)
        go_simp
        go_at_call 20
        refine (implNext_fix ({ s with dow := V5 } : Sched) sec ns h0 h1 first Y0 Hf HY0 yb0 ra xa ba hra hxa hoka dl hn _).mono ?_
        rintro e v19 ⟨rfl, hb⟩
        have HF19 : Hid (Rws w v19 ((p15, 24, #[.int .i64 0, .int .i64 0]) :: L0)) := Lib.hid (HF18.out.below hb)
        clear hb HF18
        have HN : Hid (Rws w v19 L0) := Lib.hid HF19.out.tail
        refine hK.out _ _ HN (fun hH2 => ?_)
        clear hK K hHeld
        have hHeld := hH2
        clear hH2
        (try simp only [Act.put, List.getElem_toArray, List.getElem_cons_zero, List.getElem_cons_succ, List.setIfInBounds_toArray, List.set_cons_zero, List.set_cons_succ])
        refine wpAnyH_take (i := 6) (v := ?_) rfl (by kernel_rfl) (by kernel_rfl) (by kernel_rfl) (fun _ _ _ h => nomatch h.1) (Or.inl ⟨by rfl, ?_⟩) (by assumption) ?_
        rotate_left
        · (intro wx hSw; go_simp; (try with_reducible rfl))
        (try simp only [Act.put, List.getElem_toArray, List.getElem_cons_zero, List.getElem_cons_succ, List.setIfInBounds_toArray, List.set_cons_zero, List.set_cons_succ])
        refine wpAnyH_take (i := 7) (v := ?_) rfl (by kernel_rfl) (by kernel_rfl) (by kernel_rfl) (fun _ _ _ h => nomatch h.1) (Or.inl ⟨by rfl, ?_⟩) (by assumption) ?_
        rotate_left
        · (intro wx hSw; go_simp; (try with_reducible rfl))
        (try simp only [Act.put, List.getElem_toArray, List.getElem_cons_zero, List.getElem_cons_succ, List.setIfInBounds_toArray, List.set_cons_zero, List.set_cons_succ])
        refine wpAnyH_take (i := 8) (v := ?_) rfl (by kernel_rfl) (by kernel_rfl) (by kernel_rfl) (fun _ _ _ h => nomatch h.1) (Or.inl ⟨by rfl, ?_⟩) (by assumption) ?_
        rotate_left
        · (intro wx hSw; go_simp; (try with_reducible rfl))
        (try simp only [Act.put, List.getElem_toArray, List.getElem_cons_zero, List.getElem_cons_succ, List.setIfInBounds_toArray, List.set_cons_zero, List.set_cons_succ])
        refine wpAnyH_ready (rs := [10]) (by kernel_rfl) (by simp) ?_
        refine (AllReadyH.cons rfl (fun K hK => ?_) AllReadyH.nil)
        have c0 : v19.cell? ⟨p15, 0, none⟩ = some (.int .i64 0) := HF19.out.at0.cell 0
        have c1 : v19.cell? ⟨p15, 1, none⟩ = some (.int .i64 0) := HF19.out.at0.cell 1
        have f0 := HF19.out.at0.free 0
        have f1 := HF19.out.at0.free 1
        have HE : Hid (Rws w ((v19.setCell ⟨p15, 0, none⟩ (.int .i64 xa)).setCell ⟨p15, 1, none⟩ (.int .i64 0)) ((p15, 24, #[.int .i64 xa, .int .i64 0]) :: L0)) := Lib.hid (HF19.out.set2 HLp15.out.1 HLp15.out.2 _ _)
        have HN : Hid (Rws w ((v19.setCell ⟨p15, 0, none⟩ (.int .i64 xa)).setCell ⟨p15, 1, none⟩ (.int .i64 0)) L0) := Lib.hid HE.out.tail
        go_simp
        refine hK.out _ _ HN (fun hH2 => ?_)
        clear hK K hHeld
        have hHeld := hH2
        clear hH2
        (try simp only [Act.put, List.getElem_toArray, List.getElem_cons_zero, List.getElem_cons_succ, List.setIfInBounds_toArray, List.set_cons_zero, List.set_cons_succ])
        refine wpAnyH_take (i := 11) (v := ?_) rfl (by kernel_rfl) (by kernel_rfl) (by kernel_rfl) (fun _ _ _ h => nomatch h.1) (Or.inl ⟨by rfl, ?_⟩) (by assumption) ?_
        rotate_left
        · (intro wx hSw; go_simp; (try with_reducible rfl))
        (try simp only [Act.put, List.getElem_toArray, List.getElem_cons_zero, List.getElem_cons_succ, List.setIfInBounds_toArray, List.set_cons_zero, List.set_cons_succ])
        refine wpAnyH_done (by kernel_rfl) ?_ _
        exact ⟨rfl, p15, by (simp only [puts, Act.put, List.setIfInBounds_toArray, List.set_cons_zero, List.set_cons_succ]), HE.out⟩
    case hq =>
      rintro p1 W1 hF
      rw [HL0.out] at hF
      (simp only [puts, Act.put, List.setIfInBounds_toArray, List.set_cons_zero, List.set_cons_succ])
      have HQ1 := Lib.hid hF
      clear hF HL0 HR1 L0
      go_wp2_with fail
      obtain ⟨L0, HL0⟩ : ∃ L0 : List (Nat × TypeId × Array Value), Hid (L0 = [(p1, 24, #[.int .i64 xa, .int .i64 0]), (w.heap.size + 1, 24, #[.int .i64 sec, .int .i64 ns]), (w.heap.size, 38, #[.bool false, .int .i64 dl, .int .u64 s.se, .int .u64 s.mi, .int .u64 s.ho, .int .u64 s.dom, .int .u64 s.mo, .int .u64 s.dow])]) := ⟨_, rfl⟩
      rw [← HL0.out] at HQ1
      refine reg_framex (fun p => [(36, .agg #[.bool false, .int .i64 dl, .int .u64 s.se, .int .u64 s.mi, .int .u64 s.ho, .int .u64 s.dom, .int .u64 s.mo, .int .u64 s.dow]), (37, .int .u64 V3), (38, .agg #[.bool false, .int .i64 dl, .int .u64 s.se, .int .u64 s.mi, .int .u64 s.ho, .int .u64 V3, .int .u64 s.mo, .int .u64 s.dow]), (39, .agg #[.int .i64 sec, .int .i64 ns]), (40, .agg #[.slice none 0 0, .slice none 0 0, .slice none 0 0, .slice none 0 0]), (41, .tuple #[.agg #[.int .i64 xb, .int .i64 0], .bool bb]), (35, .tuple #[.agg #[.int .i64 xb, .int .i64 0], .bool bb]), (42, .agg #[.int .i64 xb, .int .i64 0]), (43, .bool bb), (7, .pointer (some ⟨p, 0, none⟩)), (8, .bool bb)]) (fun p w' => Rws w w' ((p, 24, #[.int .i64 xb, .int .i64 0]) :: L0)) ?reg ?hq
      case reg =>
        have HFd : Hid (Rws w W1.drew L0) := Lib.hid HQ1.out.drew
        refine wp_region_held_drew (S := fun w' => Hid (Rws w w' L0)) (by kernel_rfl) HFd (fun hHeld => ?_)
        generalize W1.drew = Wd at HFd hHeld ⊢
        (try simp only [Act.put, List.getElem_toArray, List.getElem_cons_zero, List.getElem_cons_succ, List.setIfInBounds_toArray, List.set_cons_zero, List.set_cons_succ])
        refine wpAnyH_take (i := 0) (v := ?_) rfl (by kernel_rfl) (by kernel_rfl) (by kernel_rfl) (fun _ _ _ h => nomatch h.1) (Or.inl ⟨by rfl, ?_⟩) (by assumption) ?_
        rotate_left
        · (intro wx hSw; have hSx := hSw.out; rw [HL0.out] at hSx; have k0 : wx.cell? ⟨w.heap.size, 0, none⟩ = some (.bool false) := hSx.tail.tail.at0.cell 0; have k1 : wx.cell? ⟨w.heap.size, 1, none⟩ = some (.int .i64 dl) := hSx.tail.tail.at0.cell 1; have k2 : wx.cell? ⟨w.heap.size, 2, none⟩ = some (.int .u64 s.se) := hSx.tail.tail.at0.cell 2; have k3 : wx.cell? ⟨w.heap.size, 3, none⟩ = some (.int .u64 s.mi) := hSx.tail.tail.at0.cell 3; have k4 : wx.cell? ⟨w.heap.size, 4, none⟩ = some (.int .u64 s.ho) := hSx.tail.tail.at0.cell 4; have k5 : wx.cell? ⟨w.heap.size, 5, none⟩ = some (.int .u64 s.dom) := hSx.tail.tail.at0.cell 5; have k6 : wx.cell? ⟨w.heap.size, 6, none⟩ = some (.int .u64 s.mo) := hSx.tail.tail.at0.cell 6; have k7 : wx.cell? ⟨w.heap.size, 7, none⟩ = some (.int .u64 s.dow) := hSx.tail.tail.at0.cell 7; go_simp; (try with_reducible rfl))
        (try simp only [Act.put, List.getElem_toArray, List.getElem_cons_zero, List.getElem_cons_succ, List.setIfInBounds_toArray, List.set_cons_zero, List.set_cons_succ])
        refine wpAnyH_take (i := 3) (v := ?_) rfl (by kernel_rfl) (by kernel_rfl) (by kernel_rfl) (fun _ _ _ h => nomatch h.1) (Or.inl ⟨by rfl, ?_⟩) (by assumption) ?_
        rotate_left
        · (intro wx hSw; have hSx := hSw.out; rw [HL0.out] at hSx; have k0 : wx.cell? ⟨w.heap.size + 1, 0, none⟩ = some (.int .i64 sec) := hSx.tail.at0.cell 0; have k1 : wx.cell? ⟨w.heap.size + 1, 1, none⟩ = some (.int .i64 ns) := hSx.tail.at0.cell 1; go_simp; (try with_reducible rfl))
        (try simp only [Act.put, List.getElem_toArray, List.getElem_cons_zero, List.getElem_cons_succ, List.setIfInBounds_toArray, List.set_cons_zero, List.set_cons_succ])
        refine wpAnyH_ready (rs := [1, 9]) (by kernel_rfl) (by simp) ?_
        refine (AllReadyH.cons rfl (fun K hK => ?_) (AllReadyH.cons rfl (fun K hK => ?_) AllReadyH.nil))
        · go_simp
          go_at_call 14
          refine (HA3.out _).mono ?_
          rintro e v1 ⟨rfl, hb⟩
          have HF1 : Hid (Rws w v1 L0) := Lib.hid (HFd.out.below hb)
          clear hb HFd
          have HN : Hid (Rws w v1 L0) := Lib.hid HF1.out
          refine hK.out _ _ HN (fun hH2 => ?_)
          clear hK K hHeld
          have hHeld := hH2
          clear hH2
          (try simp only [Act.put, List.getElem_toArray, List.getElem_cons_zero, List.getElem_cons_succ, List.setIfInBounds_toArray, List.set_cons_zero, List.set_cons_succ])
          refine wpAnyH_ready (rs := [2, 9]) (by kernel_rfl) (by simp) ?_
          refine (AllReadyH.cons rfl (fun K hK => ?_) (AllReadyH.cons rfl (fun K hK => ?_) AllReadyH.nil))
          · go_simp
            go_at_call 31
            refine (with_dom s dl V3 _).mono ?_
            rintro e v2 ⟨rfl, hb⟩
            have HF2 : Hid (Rws w v2 L0) := Lib.hid (HF1.out.below hb)
            clear hb HF1
            have HN : Hid (Rws w v2 L0) := Lib.hid HF2.out
            refine hK.out _ _ HN (fun hH2 => ?_)
            clear hK K hHeld
            have hHeld := hH2
            clear hH2
            (try simp only [Act.put, List.getElem_toArray, List.getElem_cons_zero, List.getElem_cons_succ, List.setIfInBounds_toArray, List.set_cons_zero, List.set_cons_succ])
            refine wpAnyH_ready (rs := [4, 9]) (by kernel_rfl) (by simp) ?_
            refine (AllReadyH.cons rfl (fun K hK => ?_) (AllReadyH.cons rfl (fun K hK => ?_) AllReadyH.nil))
            · go_simp
              go_at_call 19
              refine (cronUTC_any _).mono ?_
              rintro e v3 ⟨rfl, hb⟩
              have HF3 : Hid (Rws w v3 L0) := Lib.hid (HF2.out.below hb)
              clear hb HF2
              have HN : Hid (Rws w v3 L0) := Lib.hid HF3.out
              refine hK.out _ _ HN (fun hH2 => ?_)
              clear hK K hHeld
              have hHeld := hH2
              clear hH2
              (try simp only [Act.put, List.getElem_toArray, List.getElem_cons_zero, List.getElem_cons_succ, List.setIfInBounds_toArray, List.set_cons_zero, List.set_cons_succ])
              refine wpAnyH_ready (rs := [5, 9]) (by kernel_rfl) (by simp) ?_
              refine (AllReadyH.cons rfl (fun K hK => ?_) (AllReadyH.cons rfl (fun K hK => ?_) AllReadyH.nil))
              · go_simp
                go_at_call 20
                refine (implNext_fix ({ s with dom := V3 } : Sched) sec ns h0 h1 first Y0 Hf HY0 yb0 rb xb bb hrb hxb hokb dl hn _).mono ?_
                rintro e v4 ⟨rfl, hb⟩
                have HF4 : Hid (Rws w v4 L0) := Lib.hid (HF3.out.below hb)
                clear hb HF3
                have HN : Hid (Rws w v4 L0) := Lib.hid HF4.out
                refine hK.out _ _ HN (fun hH2 => ?_)
                clear hK K hHeld
                have hHeld := hH2
                clear hH2
                (try simp only [Act.put, List.getElem_toArray, List.getElem_cons_zero, List.getElem_cons_succ, List.setIfInBounds_toArray, List.set_cons_zero, List.set_cons_succ])
                refine wpAnyH_take (i := 6) (v := ?_) rfl (by kernel_rfl) (by kernel_rfl) (by kernel_rfl) (fun _ _ _ h => nomatch h.1) (Or.inl ⟨by rfl, ?_⟩) (by assumption) ?_
                rotate_left
                · (intro wx hSw; go_simp; (try with_reducible rfl))
                (try simp only [Act.put, List.getElem_toArray, List.getElem_cons_zero, List.getElem_cons_succ, List.setIfInBounds_toArray, List.set_cons_zero, List.set_cons_succ])
                refine wpAnyH_take (i := 7) (v := ?_) rfl (by kernel_rfl) (by kernel_rfl) (by kernel_rfl) (fun _ _ _ h => nomatch h.1) (Or.inl ⟨by rfl, ?_⟩) (by assumption) ?_
                rotate_left
                · (intro wx hSw; go_simp; (try with_reducible rfl))
                (try simp only [Act.put, List.getElem_toArray, List.getElem_cons_zero, List.getElem_cons_succ, List.setIfInBounds_toArray, List.set_cons_zero, List.set_cons_succ])
                refine wpAnyH_take (i := 8) (v := ?_) rfl (by kernel_rfl) (by kernel_rfl) (by kernel_rfl) (fun _ _ _ h => nomatch h.1) (Or.inl ⟨by rfl, ?_⟩) (by assumption) ?_
                rotate_left
                · (intro wx hSw; go_simp; (try with_reducible rfl))
                (try simp only [Act.put, List.getElem_toArray, List.getElem_cons_zero, List.getElem_cons_succ, List.setIfInBounds_toArray, List.set_cons_zero, List.set_cons_succ])
                refine wpAnyH_ready (rs := [9]) (by kernel_rfl) (by simp) ?_
                refine (AllReadyH.cons rfl (fun K hK => ?_) AllReadyH.nil)
                go_simp
                obtain ⟨p5, hp⟩ : ∃ p5, p5 = v4.heap.size := ⟨_, rfl⟩
                (try rw [← hp])
                have HLp5 : Hid ((∀ r ∈ L0, r.1 < p5) ∧ w.heap.size ≤ p5) := Lib.hid ⟨by rw [hp]; exact HF4.out.lt, by rw [hp]; exact HF4.out.2.size⟩
                have HF5 : Hid (Rws w (v4.alloc (.cells #[.int .i64 0, .int .i64 0] 24)) ((p5, 24, #[.int .i64 0, .int .i64 0]) :: L0)) := Lib.hid (HF4.out.alloc p5 hp _ _)
                clear HF4 hp
                refine kHeld hK.out (W := v4.alloc (.cells #[.int .i64 0, .int .i64 0] 24)) (Lib.hid HF5.out.tail) (fun hH2 => ?_)
                clear hK K hHeld
                have hHeld := hH2
                clear hH2
                generalize v4.alloc (.cells #[.int .i64 0, .int .i64 0] 24) = a5 at hHeld HF5 ⊢
                (try simp only [Act.put, List.getElem_toArray, List.getElem_cons_zero, List.getElem_cons_succ, List.setIfInBounds_toArray, List.set_cons_zero, List.set_cons_succ])
                refine wpAnyH_ready (rs := [10]) (by kernel_rfl) (by simp) ?_
                refine (AllReadyH.cons rfl (fun K hK => ?_) AllReadyH.nil)
                have c0 : a5.cell? ⟨p5, 0, none⟩ = some (.int .i64 0) := HF5.out.at0.cell 0
                have c1 : a5.cell? ⟨p5, 1, none⟩ = some (.int .i64 0) := HF5.out.at0.cell 1
                have f0 := HF5.out.at0.free 0
                have f1 := HF5.out.at0.free 1
                have HE : Hid (Rws w ((a5.setCell ⟨p5, 0, none⟩ (.int .i64 xb)).setCell ⟨p5, 1, none⟩ (.int .i64 0)) ((p5, 24, #[.int .i64 xb, .int .i64 0]) :: L0)) := Lib.hid (HF5.out.set2 HLp5.out.1 HLp5.out.2 _ _)
                have HN : Hid (Rws w ((a5.setCell ⟨p5, 0, none⟩ (.int .i64 xb)).setCell ⟨p5, 1, none⟩ (.int .i64 0)) L0) := Lib.hid HE.out.tail
                go_simp
                refine hK.out _ _ HN (fun hH2 => ?_)
                clear hK K hHeld
                have hHeld := hH2
                clear hH2
                (try simp only [Act.put, List.getElem_toArray, List.getElem_cons_zero, List.getElem_cons_succ, List.setIfInBounds_toArray, List.set_cons_zero, List.set_cons_succ])
                refine wpAnyH_take (i := 11) (v := ?_) rfl (by kernel_rfl) (by kernel_rfl) (by kernel_rfl) (fun _ _ _ h => nomatch h.1) (Or.inl ⟨by rfl, ?_⟩) (by assumption) ?_
                rotate_left
                · (intro wx hSw; go_simp; (try with_reducible rfl))
                (try simp only [Act.put, List.getElem_toArray, List.getElem_cons_zero, List.getElem_cons_succ, List.setIfInBounds_toArray, List.set_cons_zero, List.set_cons_succ])
                refine wpAnyH_done (by kernel_rfl) ?_ _
                exact ⟨rfl, p5, by (simp only [puts, Act.put, List.setIfInBounds_toArray, List.set_cons_zero, List.set_cons_succ]), HE.out⟩
              · go_simp
                obtain ⟨p6, hp⟩ : ∃ p6, p6 = v3.heap.size := ⟨_, rfl⟩
                (try rw [← hp])
                have HLp6 : Hid ((∀ r ∈ L0, r.1 < p6) ∧ w.heap.size ≤ p6) := Lib.hid ⟨by rw [hp]; exact HF3.out.lt, by rw [hp]; exact HF3.out.2.size⟩
                have HF6 : Hid (Rws w (v3.alloc (.cells #[.int .i64 0, .int .i64 0] 24)) ((p6, 24, #[.int .i64 0, .int .i64 0]) :: L0)) := Lib.hid (HF3.out.alloc p6 hp _ _)
                clear HF3 hp
                refine kHeld hK.out (W := v3.alloc (.cells #[.int .i64 0, .int .i64 0] 24)) (Lib.hid HF6.out.tail) (fun hH2 => ?_)
                clear hK K hHeld
                have hHeld := hH2
                clear hH2
                generalize v3.alloc (.cells #[.int .i64 0, .int .i64 0] 24) = a6 at hHeld HF6 ⊢
                (try simp only [Act.put, List.getElem_toArray, List.getElem_cons_zero, List.getElem_cons_succ, List.setIfInBounds_toArray, List.set_cons_zero, List.set_cons_succ])
                refine wpAnyH_ready (rs := [5]) (by kernel_rfl) (by simp) ?_
                refine (AllReadyH.cons rfl (fun K hK => ?_) AllReadyH.nil)
                go_simp
                go_at_call 20
                refine (implNext_fix ({ s with dom := V3 } : Sched) sec ns h0 h1 first Y0 Hf HY0 yb0 rb xb bb hrb hxb hokb dl hn _).mono ?_
                rintro e v7 ⟨rfl, hb⟩
                have HF7 : Hid (Rws w v7 ((p6, 24, #[.int .i64 0, .int .i64 0]) :: L0)) := Lib.hid (HF6.out.below hb)
                clear hb HF6
                have HN : Hid (Rws w v7 L0) := Lib.hid HF7.out.tail
                refine hK.out _ _ HN (fun hH2 => ?_)
                clear hK K hHeld
                have hHeld := hH2
                clear hH2
                (try simp only [Act.put, List.getElem_toArray, List.getElem_cons_zero, List.getElem_cons_succ, List.setIfInBounds_toArray, List.set_cons_zero, List.set_cons_succ])
                refine wpAnyH_take (i := 6) (v := ?_) rfl (by kernel_rfl) (by kernel_rfl) (by kernel_rfl) (fun _ _ _ h => nomatch h.1) (Or.inl ⟨by rfl, ?_⟩) (by assumption) ?_
                rotate_left
                · (intro wx hSw; go_simp; (try with_reducible rfl))
                (try simp only [Act.put, List.getElem_toArray, List.getElem_cons_zero, List.getElem_cons_succ, List.setIfInBounds_toArray, List.set_cons_zero, List.set_cons_succ])
                refine wpAnyH_take (i := 7) (v := ?_) rfl (by kernel_rfl) (by kernel_rfl) (by kernel_rfl) (fun _ _ _ h => nomatch h.1) (Or.inl ⟨by rfl, ?_⟩) (by assumption) ?_
                rotate_left
                · (intro wx hSw; go_simp; (try with_reducible rfl))
                (try simp only [Act.put, List.getElem_toArray, List.getElem_cons_zero, List.getElem_cons_succ, List.setIfInBounds_toArray, List.set_cons_zero, List.set_cons_succ])
                refine wpAnyH_take (i := 8) (v := ?_) rfl (by kernel_rfl) (by kernel_rfl) (by kernel_rfl) (fun _ _ _ h => nomatch h.1) (Or.inl ⟨by rfl, ?_⟩) (by assumption) ?_
                rotate_left
                · (intro wx hSw; go_simp; (try with_reducible rfl))
                (try simp only [Act.put, List.getElem_toArray, List.getElem_cons_zero, List.getElem_cons_succ, List.setIfInBounds_toArray, List.set_cons_zero, List.set_cons_succ])
                refine wpAnyH_ready (rs := [10]) (by kernel_rfl) (by simp) ?_
                refine (AllReadyH.cons rfl (fun K hK => ?_) AllReadyH.nil)
                have c0 : v7.cell? ⟨p6, 0, none⟩ = some (.int .i64 0) := HF7.out.at0.cell 0
                have c1 : v7.cell? ⟨p6, 1, none⟩ = some (.int .i64 0) := HF7.out.at0.cell 1
                have f0 := HF7.out.at0.free 0
                have f1 := HF7.out.at0.free 1
                have HE : Hid (Rws w ((v7.setCell ⟨p6, 0, none⟩ (.int .i64 xb)).setCell ⟨p6, 1, none⟩ (.int .i64 0)) ((p6, 24, #[.int .i64 xb, .int .i64 0]) :: L0)) := Lib.hid (HF7.out.set2 HLp6.out.1 HLp6.out.2 _ _)
                have HN : Hid (Rws w ((v7.setCell ⟨p6, 0, none⟩ (.int .i64 xb)).setCell ⟨p6, 1, none⟩ (.int .i64 0)) L0) := Lib.hid HE.out.tail
                go_simp
                refine hK.out _ _ HN (fun hH2 => ?_)
                clear hK K hHeld
                have hHeld := hH2
                clear hH2
                (try simp only [Act.put, List.getElem_toArray, List.getElem_cons_zero, List.getElem_cons_succ, List.setIfInBounds_toArray, List.set_cons_zero, List.set_cons_succ])
                refine wpAnyH_take (i := 11) (v := ?_) rfl (by kernel_rfl) (by kernel_rfl) (by kernel_rfl) (fun _ _ _ h => nomatch h.1) (Or.inl ⟨by rfl, ?_⟩) (by assumption) ?_
                rotate_left
                · (intro wx hSw; go_simp; (try with_reducible rfl))
                (try simp only [Act.put, List.getElem_toArray, List.getElem_cons_zero, List.getElem_cons_succ, List.setIfInBounds_toArray, List.set_cons_zero, List.set_cons_succ])
                refine wpAnyH_done (by kernel_rfl) ?_ _
                exact ⟨rfl, p6, by (simp only [puts, Act.put, List.setIfInBounds_toArray, List.set_cons_zero, List.set_cons_succ]), HE.out⟩
            · go_simp
              obtain ⟨p8, hp⟩ : ∃ p8, p8 = v2.heap.size := ⟨_, rfl⟩
              (try rw [← hp])
              have HLp8 : Hid ((∀ r ∈ L0, r.1 < p8) ∧ w.heap.size ≤ p8) := Lib.hid ⟨by rw [hp]; exact HF2.out.lt, by rw [hp]; exact HF2.out.2.size⟩
              have HF8 : Hid (Rws w (v2.alloc (.cells #[.int .i64 0, .int .i64 0] 24)) ((p8, 24, #[.int .i64 0, .int .i64 0]) :: L0)) := Lib.hid (HF2.out.alloc p8 hp _ _)
              clear HF2 hp
              refine kHeld hK.out (W := v2.alloc (.cells #[.int .i64 0, .int .i64 0] 24)) (Lib.hid HF8.out.tail) (fun hH2 => ?_)
              clear hK K hHeld
              have hHeld := hH2
              clear hH2
              generalize v2.alloc (.cells #[.int .i64 0, .int .i64 0] 24) = a8 at hHeld HF8 ⊢
              (try simp only [Act.put, List.getElem_toArray, List.getElem_cons_zero, List.getElem_cons_succ, List.setIfInBounds_toArray, List.set_cons_zero, List.set_cons_succ])
              refine wpAnyH_ready (rs := [4]) (by kernel_rfl) (by simp) ?_
              refine (AllReadyH.cons rfl (fun K hK => ?_) AllReadyH.nil)
              go_simp
              go_at_call 19
              refine (cronUTC_any _).mono ?_
              rintro e v9 ⟨rfl, hb⟩
              have HF9 : Hid (Rws w v9 ((p8, 24, #[.int .i64 0, .int .i64 0]) :: L0)) := Lib.hid (HF8.out.below hb)
              clear hb HF8
              have HN : Hid (Rws w v9 L0) := Lib.hid HF9.out.tail
              refine hK.out _ _ HN (fun hH2 => ?_)
              clear hK K hHeld
              have hHeld := hH2
              clear hH2
              (try simp only [Act.put, List.getElem_toArray, List.getElem_cons_zero, List.getElem_cons_succ, List.setIfInBounds_toArray, List.set_cons_zero, List.set_cons_succ])
              refine wpAnyH_ready (rs := [5]) (by kernel_rfl) (by simp) ?_
              refine (AllReadyH.cons rfl (fun K hK => ?_) AllReadyH.nil)
              go_simp
              go_at_call 20
              refine (implNext_fix ({ s with dom := V3 } : Sched) sec ns h0 h1 first Y0 Hf HY0 yb0 rb xb bb hrb hxb hokb dl hn _).mono ?_
              rintro e v10 ⟨rfl, hb⟩
              have HF10 : Hid (Rws w v10 ((p8, 24, #[.int .i64 0, .int .i64 0]) :: L0)) := Lib.hid (HF9.out.below hb)
              clear hb HF9
              have HN : Hid (Rws w v10 L0) := Lib.hid HF10.out.tail
              refine hK.out _ _ HN (fun hH2 => ?_)
              clear hK K hHeld
              have hHeld := hH2
              clear hH2
              (try simp only [Act.put, List.getElem_toArray, List.getElem_cons_zero, List.getElem_cons_succ, List.setIfInBounds_toArray, List.set_cons_zero, List.set_cons_succ])
              refine wpAnyH_take (i := 6) (v := ?_) rfl (by kernel_rfl) (by kernel_rfl) (by kernel_rfl) (fun _ _ _ h => nomatch h.1) (Or.inl ⟨by rfl, ?_⟩) (by assumption) ?_
              rotate_left
              · (intro wx hSw; go_simp; (try with_reducible rfl))
              (try simp only [Act.put, List.getElem_toArray, List.getElem_cons_zero, List.getElem_cons_succ, List.setIfInBounds_toArray, List.set_cons_zero, List.set_cons_succ])
              refine wpAnyH_take (i := 7) (v := ?_) rfl (by kernel_rfl) (by kernel_rfl) (by kernel_rfl) (fun _ _ _ h => nomatch h.1) (Or.inl ⟨by rfl, ?_⟩) (by assumption) ?_
              rotate_left
              · (intro wx hSw; go_simp; (try with_reducible rfl))
              (try simp only [Act.put, List.getElem_toArray, List.getElem_cons_zero, List.getElem_cons_succ, List.setIfInBounds_toArray, List.set_cons_zero, List.set_cons_succ])
              refine wpAnyH_take (i := 8) (v := ?_) rfl (by kernel_rfl) (by kernel_rfl) (by kernel_rfl) (fun _ _ _ h => nomatch h.1) (Or.inl ⟨by rfl, ?_⟩) (by assumption) ?_
              rotate_left
              · (intro wx hSw; go_simp; (try with_reducible rfl))
              (try simp only [Act.put, List.getElem_toArray, List.getElem_cons_zero, List.getElem_cons_succ, List.setIfInBounds_toArray, List.set_cons_zero, List.set_cons_succ])
              refine wpAnyH_ready (rs := [10]) (by kernel_rfl) (by simp) ?_
              refine (AllReadyH.cons rfl (fun K hK => ?_) AllReadyH.nil)
              have c0 : v10.cell? ⟨p8, 0, none⟩ = some (.int .i64 0) := HF10.out.at0.cell 0
              have c1 : v10.cell? ⟨p8, 1, none⟩ = some (.int .i64 0) := HF10.out.at0.cell 1
              have f0 := HF10.out.at0.free 0
              have f1 := HF10.out.at0.free 1
              have HE : Hid (Rws w ((v10.setCell ⟨p8, 0, none⟩ (.int .i64 xb)).setCell ⟨p8, 1, none⟩ (.int .i64 0)) ((p8, 24, #[.int .i64 xb, .int .i64 0]) :: L0)) := Lib.hid (HF10.out.set2 HLp8.out.1 HLp8.out.2 _ _)
              have HN : Hid (Rws w ((v10.setCell ⟨p8, 0, none⟩ (.int .i64 xb)).setCell ⟨p8, 1, none⟩ (.int .i64 0)) L0) := Lib.hid HE.out.tail
              go_simp
              refine hK.out _ _ HN (fun hH2 => ?_)
              clear hK K hHeld
              have hHeld := hH2
              clear hH2
              (try simp only [Act.put, List.getElem_toArray, List.getElem_cons_zero, List.getElem_cons_succ, List.setIfInBounds_toArray, List.set_cons_zero, List.set_cons_succ])
              refine wpAnyH_take (i := 11) (v := ?_) rfl (by kernel_rfl) (by kernel_rfl) (by kernel_rfl) (fun _ _ _ h => nomatch h.1) (Or.inl ⟨by rfl, ?_⟩) (by assumption) ?_
              rotate_left
              · (intro wx hSw; go_simp; (try with_reducible rfl))
              (try simp only [Act.put, List.getElem_toArray, List.getElem_cons_zero, List.getElem_cons_succ, List.setIfInBounds_toArray, List.set_cons_zero, List.set_cons_succ])
              refine wpAnyH_done (by kernel_rfl) ?_ _
              exact ⟨rfl, p8, by (simp only [puts, Act.put, List.setIfInBounds_toArray, List.set_cons_zero, List.set_cons_succ]), HE.out⟩
          · go_simp
            obtain ⟨p11, hp⟩ : ∃ p11, p11 = v1.heap.size := ⟨_, rfl⟩
            (try rw [← hp])
            have HLp11 : Hid ((∀ r ∈ L0, r.1 < p11) ∧ w.heap.size ≤ p11) := Lib.hid ⟨by rw [hp]; exact HF1.out.lt, by rw [hp]; exact HF1.out.2.size⟩
            have HF11 : Hid (Rws w (v1.alloc (.cells #[.int .i64 0, .int .i64 0] 24)) ((p11, 24, #[.int .i64 0, .int .i64 0]) :: L0)) := Lib.hid (HF1.out.alloc p11 hp _ _)
            clear HF1 hp
            refine kHeld hK.out (W := v1.alloc (.cells #[.int .i64 0, .int .i64 0] 24)) (Lib.hid HF11.out.tail) (fun hH2 => ?_)
            clear hK K hHeld
            have hHeld := hH2
            clear hH2
            generalize v1.alloc (.cells #[.int .i64 0, .int .i64 0] 24) = a11 at hHeld HF11 ⊢
            (try simp only [Act.put, List.getElem_toArray, List.getElem_cons_zero, List.getElem_cons_succ, List.setIfInBounds_toArray, List.set_cons_zero, List.set_cons_succ])
            refine wpAnyH_ready (rs := [2]) (by kernel_rfl) (by simp) ?_
            refine (AllReadyH.cons rfl (fun K hK => ?_) AllReadyH.nil)
            go_simp
            go_at_call 31
            refine (with_dom s dl V3 _).mono ?_
            rintro e v12 ⟨rfl, hb⟩
            have HF12 : Hid (Rws w v12 ((p11, 24, #[.int .i64 0, .int .i64 0]) :: L0)) := Lib.hid (HF11.out.below hb)
            clear hb HF11
            have HN : Hid (Rws w v12 L0) := Lib.hid HF12.out.tail
            refine hK.out _ _ HN (fun hH2 => ?_)
            clear hK K hHeld
            have hHeld := hH2
            clear hH2
            (try simp only [Act.put, List.getElem_toArray, List.getElem_cons_zero, List.getElem_cons_succ, List.setIfInBounds_toArray, List.set_cons_zero, List.set_cons_succ])
            refine wpAnyH_ready (rs := [4]) (by kernel_rfl) (by simp) ?_
            refine (AllReadyH.cons rfl (fun K hK => ?_) AllReadyH.nil)
            go_simp
            go_at_call 19
            refine (cronUTC_any _).mono ?_
            rintro e v13 ⟨rfl, hb⟩
            have HF13 : Hid (Rws w v13 ((p11, 24, #[.int .i64 0, .int .i64 0]) :: L0)) := Lib.hid (HF12.out.below hb)
            clear hb HF12
            have HN : Hid (Rws w v13 L0) := Lib.hid HF13.out.tail
            refine hK.out _ _ HN (fun hH2 => ?_)
            clear hK K hHeld
            have hHeld := hH2
            clear hH2
            (try simp only [Act.put, List.getElem_toArray, List.getElem_cons_zero, List.getElem_cons_succ, List.setIfInBounds_toArray, List.set_cons_zero, List.set_cons_succ])
            refine wpAnyH_ready (rs := [5]) (by kernel_rfl) (by simp) ?_
            refine (AllReadyH.cons rfl (fun K hK => ?_) AllReadyH.nil)
            go_simp
            go_at_call 20
            refine (implNext_fix ({ s with dom := V3 } : Sched) sec ns h0 h1 first Y0 Hf HY0 yb0 rb xb bb hrb hxb hokb dl hn _).mono ?_
            rintro e v14 ⟨rfl, hb⟩
            have HF14 : Hid (Rws w v14 ((p11, 24, #[.int .i64 0, .int .i64 0]) :: L0)) := Lib.hid (HF13.out.below hb)
            clear hb HF13
            have HN : Hid (Rws w v14 L0) := Lib.hid HF14.out.tail
            refine hK.out _ _ HN (fun hH2 => ?_)
            clear hK K hHeld
            have hHeld := hH2
            clear hH2
            (try simp only [Act.put, List.getElem_toArray, List.getElem_cons_zero, List.getElem_cons_succ, List.setIfInBounds_toArray, List.set_cons_zero, List.set_cons_succ])
            refine wpAnyH_take (i := 6) (v := ?_) rfl (by kernel_rfl) (by kernel_rfl) (by kernel_rfl) (fun _ _ _ h => nomatch h.1) (Or.inl ⟨by rfl, ?_⟩) (by assumption) ?_
            rotate_left
            · (intro wx hSw; go_simp; (try with_reducible rfl))
            (try simp only [Act.put, List.getElem_toArray, List.getElem_cons_zero, List.getElem_cons_succ, List.setIfInBounds_toArray, List.set_cons_zero, List.set_cons_succ])
            refine wpAnyH_take (i := 7) (v := ?_) rfl (by kernel_rfl) (by kernel_rfl) (by kernel_rfl) (fun _ _ _ h => nomatch h.1) (Or.inl ⟨by rfl, ?_⟩) (by assumption) ?_
            rotate_left
            · (intro wx hSw; go_simp; (try with_reducible rfl))
            (try simp only [Act.put, List.getElem_toArray, List.getElem_cons_zero, List.getElem_cons_succ, List.setIfInBounds_toArray, List.set_cons_zero, List.set_cons_succ])
            refine wpAnyH_take (i := 8) (v := ?_) rfl (by kernel_rfl) (by kernel_rfl) (by kernel_rfl) (fun _ _ _ h => nomatch h.1) (Or.inl ⟨by rfl, ?_⟩) (by assumption) ?_
            rotate_left
            · (intro wx hSw; go_simp; (try with_reducible rfl))
            (try simp only [Act.put, List.getElem_toArray, List.getElem_cons_zero, List.getElem_cons_succ, List.setIfInBounds_toArray, List.set_cons_zero, List.set_cons_succ])
            refine wpAnyH_ready (rs := [10]) (by kernel_rfl) (by simp) ?_
            refine (AllReadyH.cons rfl (fun K hK => ?_) AllReadyH.nil)
            have c0 : v14.cell? ⟨p11, 0, none⟩ = some (.int .i64 0) := HF14.out.at0.cell 0
            have c1 : v14.cell? ⟨p11, 1, none⟩ = some (.int .i64 0) := HF14.out.at0.cell 1
            have f0 := HF14.out.at0.free 0
            have f1 := HF14.out.at0.free 1
            have HE : Hid (Rws w ((v14.setCell ⟨p11, 0, none⟩ (.int .i64 xb)).setCell ⟨p11, 1, none⟩ (.int .i64 0)) ((p11, 24, #[.int .i64 xb, .int .i64 0]) :: L0)) := Lib.hid (HF14.out.set2 HLp11.out.1 HLp11.out.2 _ _)
            have HN : Hid (Rws w ((v14.setCell ⟨p11, 0, none⟩ (.int .i64 xb)).setCell ⟨p11, 1, none⟩ (.int .i64 0)) L0) := Lib.hid HE.out.tail
            go_simp
            refine hK.out _ _ HN (fun hH2 => ?_)
            clear hK K hHeld
            have hHeld := hH2
            clear hH2
            (try simp only [Act.put, List.getElem_toArray, List.getElem_cons_zero, List.getElem_cons_succ, List.setIfInBounds_toArray, List.set_cons_zero, List.set_cons_succ])
            refine wpAnyH_take (i := 11) (v := ?_) rfl (by kernel_rfl) (by kernel_rfl) (by kernel_rfl) (fun _ _ _ h => nomatch h.1) (Or.inl ⟨by rfl, ?_⟩) (by assumption) ?_
            rotate_left
            · (intro wx hSw; go_simp; (try with_reducible rfl))
            (try simp only [Act.put, List.getElem_toArray, List.getElem_cons_zero, List.getElem_cons_succ, List.setIfInBounds_toArray, List.set_cons_zero, List.set_cons_succ])
            refine wpAnyH_done (by kernel_rfl) ?_ _
            exact ⟨rfl, p11, by (simp only [puts, Act.put, List.setIfInBounds_toArray, List.set_cons_zero, List.set_cons_succ]), HE.out⟩
        · go_simp
          obtain ⟨p15, hp⟩ : ∃ p15, p15 = Wd.heap.size := ⟨_, rfl⟩
          (try rw [← hp])
          have HLp15 : Hid ((∀ r ∈ L0, r.1 < p15) ∧ w.heap.size ≤ p15) := Lib.hid ⟨by rw [hp]; exact HFd.out.lt, by rw [hp]; exact HFd.out.2.size⟩
          have HF15 : Hid (Rws w (Wd.alloc (.cells #[.int .i64 0, .int .i64 0] 24)) ((p15, 24, #[.int .i64 0, .int .i64 0]) :: L0)) := Lib.hid (HFd.out.alloc p15 hp _ _)
          clear HFd hp
          refine kHeld hK.out (W := Wd.alloc (.cells #[.int .i64 0, .int .i64 0] 24)) (Lib.hid HF15.out.tail) (fun hH2 => ?_)
          clear hK K hHeld
          have hHeld := hH2
          clear hH2
          generalize Wd.alloc (.cells #[.int .i64 0, .int .i64 0] 24) = a15 at hHeld HF15 ⊢
          (try simp only [Act.put, List.getElem_toArray, List.getElem_cons_zero, List.getElem_cons_succ, List.setIfInBounds_toArray, List.set_cons_zero, List.set_cons_succ])
          refine wpAnyH_ready (rs := [1]) (by kernel_rfl) (by simp) ?_
          refine (AllReadyH.cons rfl (fun K hK => ?_) AllReadyH.nil)
          go_simp
          go_at_call 14
          refine (HA3.out _).mono ?_
          rintro e v16 ⟨rfl, hb⟩
          have HF16 : Hid (Rws w v16 ((p15, 24, #[.int .i64 0, .int .i64 0]) :: L0)) := Lib.hid (HF15.out.below hb)
          clear hb HF15
          have HN : Hid (Rws w v16 L0) := Lib.hid HF16.out.tail
          refine hK.out _ _ HN (fun hH2 => ?_)
          clear hK K hHeld
          have hHeld := hH2
          clear hH2
          (try simp only [Act.put, List.getElem_toArray, List.getElem_cons_zero, List.getElem_cons_succ, List.setIfInBounds_toArray, List.set_cons_zero, List.set_cons_succ])
          refine wpAnyH_ready (rs := [2]) (by kernel_rfl) (by simp) ?_
          refine (AllReadyH.cons rfl (fun K hK => ?_) AllReadyH.nil)
          go_simp
          go_at_call 31
          refine (with_dom s dl V3 _).mono ?_
          rintro e v17 ⟨rfl, hb⟩
          have HF17 : Hid (Rws w v17 ((p15, 24, #[.int .i64 0, .int .i64 0]) :: L0)) := Lib.hid (HF16.out.below hb)
          clear hb HF16
          have HN : Hid (Rws w v17 L0) := Lib.hid HF17.out.tail
          refine hK.out _ _ HN (fun hH2 => ?_)
          clear hK K hHeld
          have hHeld := hH2
          clear hH2
          (try simp only [Act.put, List.getElem_toArray, List.getElem_cons_zero, List.getElem_cons_succ, List.setIfInBounds_toArray, List.set_cons_zero, List.set_cons_succ])
          refine wpAnyH_ready (rs := [4]) (by kernel_rfl) (by simp) ?_
          refine (AllReadyH.cons rfl (fun K hK => ?_) AllReadyH.nil)
          go_simp
          go_at_call 19
          refine (cronUTC_any _).mono ?_
          rintro e v18 ⟨rfl, hb⟩
          have HF18 : Hid (Rws w v18 ((p15, 24, #[.int .i64 0, .int .i64 0]) :: L0)) := Lib.hid (HF17.out.below hb)
          clear hb HF17
          have HN : Hid (Rws w v18 L0) := Lib.hid HF18.out.tail
          refine hK.out _ _ HN (fun hH2 => ?_)
          clear hK K hHeld
          have hHeld := hH2
          clear hH2
          (try simp only [Act.put, List.getElem_toArray, List.getElem_cons_zero, List.getElem_cons_succ, List.setIfInBounds_toArray, List.set_cons_zero, List.set_cons_succ])
          refine wpAnyH_ready (rs := [5]) (by kernel_rfl) (by simp) ?_
          refine (AllReadyH.cons rfl (fun K hK => ?_) AllReadyH.nil)
          go_simp
          go_at_call 20
          refine (implNext_fix ({ s with dom := V3 } : Sched) sec ns h0 h1 first Y0 Hf HY0 yb0 rb xb bb hrb hxb hokb dl hn _).mono ?_
          rintro e v19 ⟨rfl, hb⟩
          have HF19 : Hid (Rws w v19 ((p15, 24, #[.int .i64 0, .int .i64 0]) :: L0)) := Lib.hid (HF18.out.below hb)
          clear hb HF18
          have HN : Hid (Rws w v19 L0) := Lib.hid HF19.out.tail
          refine hK.out _ _ HN (fun hH2 => ?_)
          clear hK K hHeld
          have hHeld := hH2
          clear hH2
          (try simp only [Act.put, List.getElem_toArray, List.getElem_cons_zero, List.getElem_cons_succ, List.setIfInBounds_toArray, List.set_cons_zero, List.set_cons_succ])
          refine wpAnyH_take (i := 6) (v := ?_) rfl (by kernel_rfl) (by kernel_rfl) (by kernel_rfl) (fun _ _ _ h => nomatch h.1) (Or.inl ⟨by rfl, ?_⟩) (by assumption) ?_
          rotate_left
          · (intro wx hSw; go_simp; (try with_reducible rfl))
          (try simp only [Act.put, List.getElem_toArray, List.getElem_cons_zero, List.getElem_cons_succ, List.setIfInBounds_toArray, List.set_cons_zero, List.set_cons_succ])
          refine wpAnyH_take (i := 7) (v := ?_) rfl (by kernel_rfl) (by kernel_rfl) (by kernel_rfl) (fun _ _ _ h => nomatch h.1) (Or.inl ⟨by rfl, ?_⟩) (by assumption) ?_
          rotate_left
          · (intro wx hSw; go_simp; (try with_reducible rfl))
          (try simp only [Act.put, List.getElem_toArray, List.getElem_cons_zero, List.getElem_cons_succ, List.setIfInBounds_toArray, List.set_cons_zero, List.set_cons_succ])
          refine wpAnyH_take (i := 8) (v := ?_) rfl (by kernel_rfl) (by kernel_rfl) (by kernel_rfl) (fun _ _ _ h => nomatch h.1) (Or.inl ⟨by rfl, ?_⟩) (by assumption) ?_
          rotate_left
          · (intro wx hSw; go_simp; (try with_reducible rfl))
          (try simp only [Act.put, List.getElem_toArray, List.getElem_cons_zero, List.getElem_cons_succ, List.setIfInBounds_toArray, List.set_cons_zero, List.set_cons_succ])
          refine wpAnyH_ready (rs := [10]) (by kernel_rfl) (by simp) ?_
          refine (AllReadyH.cons rfl (fun K hK => ?_) AllReadyH.nil)
          have c0 : v19.cell? ⟨p15, 0, none⟩ = some (.int .i64 0) := HF19.out.at0.cell 0
          have c1 : v19.cell? ⟨p15, 1, none⟩ = some (.int .i64 0) := HF19.out.at0.cell 1
          have f0 := HF19.out.at0.free 0
          have f1 := HF19.out.at0.free 1
          have HE : Hid (Rws w ((v19.setCell ⟨p15, 0, none⟩ (.int .i64 xb)).setCell ⟨p15, 1, none⟩ (.int .i64 0)) ((p15, 24, #[.int .i64 xb, .int .i64 0]) :: L0)) := Lib.hid (HF19.out.set2 HLp15.out.1 HLp15.out.2 _ _)
          have HN : Hid (Rws w ((v19.setCell ⟨p15, 0, none⟩ (.int .i64 xb)).setCell ⟨p15, 1, none⟩ (.int .i64 0)) L0) := Lib.hid HE.out.tail
          go_simp
          refine hK.out _ _ HN (fun hH2 => ?_)
          clear hK K hHeld
          have hHeld := hH2
          clear hH2
          (try simp only [Act.put, List.getElem_toArray, List.getElem_cons_zero, List.getElem_cons_succ, List.setIfInBounds_toArray, List.set_cons_zero, List.set_cons_succ])
          refine wpAnyH_take (i := 11) (v := ?_) rfl (by kernel_rfl) (by kernel_rfl) (by kernel_rfl) (fun _ _ _ h => nomatch h.1) (Or.inl ⟨by rfl, ?_⟩) (by assumption) ?_
          rotate_left
          · (intro wx hSw; go_simp; (try with_reducible rfl))
          (try simp only [Act.put, List.getElem_toArray, List.getElem_cons_zero, List.getElem_cons_succ, List.setIfInBounds_toArray, List.set_cons_zero, List.set_cons_succ])
          refine wpAnyH_done (by kernel_rfl) ?_ _
          exact ⟨rfl, p15, by (simp only [puts, Act.put, List.setIfInBounds_toArray, List.set_cons_zero, List.set_cons_succ]), HE.out⟩
      case hq =>
        rintro p2 W2 hF
        rw [HL0.out] at hF
        (simp only [puts, Act.put, List.setIfInBounds_toArray, List.set_cons_zero, List.set_cons_succ])
        have HQ2 := Lib.hid hF
        clear hF HL0 HQ1 L0
        go_wp2_with fail
        obtain ⟨L0, HL0⟩ : ∃ L0 : List (Nat × TypeId × Array Value), Hid (L0 = [(p2, 24, #[.int .i64 xb, .int .i64 0]), (p1, 24, #[.int .i64 xa, .int .i64 0]), (w.heap.size + 1, 24, #[.int .i64 sec, .int .i64 ns]), (w.heap.size, 38, #[.bool false, .int .i64 dl, .int .u64 s.se, .int .u64 s.mi, .int .u64 s.ho, .int .u64 s.dom, .int .u64 s.mo, .int .u64 s.dow])]) := ⟨_, rfl⟩
        rw [← HL0.out] at HQ2
        refine reg_framex (fun p => [(45, .agg #[.bool false, .int .i64 dl, .int .u64 s.se, .int .u64 s.mi, .int .u64 s.ho, .int .u64 s.dom, .int .u64 s.mo, .int .u64 s.dow]), (46, .agg #[.int .i64 sec, .int .i64 ns]), (47, .agg #[.slice none 0 0, .slice none 0 0, .slice none 0 0, .slice none 0 0]), (48, .tuple #[.agg #[.int .i64 x, .int .i64 0], .bool b]), (44, .tuple #[.agg #[.int .i64 x, .int .i64 0], .bool b]), (49, .agg #[.int .i64 x, .int .i64 0]), (50, .bool b), (9, .pointer (some ⟨p, 0, none⟩)), (10, .bool b)]) (fun p w' => Rws w w' ((p, 24, #[.int .i64 x, .int .i64 0]) :: L0)) ?reg ?hq
        case reg =>
          have HFd : Hid (Rws w W2.drew L0) := Lib.hid HQ2.out.drew
          refine wp_region_held_drew (S := fun w' => Hid (Rws w w' L0)) (by kernel_rfl) HFd (fun hHeld => ?_)
          generalize W2.drew = Wd at HFd hHeld ⊢
          (try simp only [Act.put, List.getElem_toArray, List.getElem_cons_zero, List.getElem_cons_succ, List.setIfInBounds_toArray, List.set_cons_zero, List.set_cons_succ])
          refine wpAnyH_take (i := 0) (v := ?_) rfl (by kernel_rfl) (by kernel_rfl) (by kernel_rfl) (fun _ _ _ h => nomatch h.1) (Or.inl ⟨by rfl, ?_⟩) (by assumption) ?_
          rotate_left
          · (intro wx hSw; have hSx := hSw.out; rw [HL0.out] at hSx; have k0 : wx.cell? ⟨w.heap.size, 0, none⟩ = some (.bool false) := hSx.tail.tail.tail.at0.cell 0; have k1 : wx.cell? ⟨w.heap.size, 1, none⟩ = some (.int .i64 dl) := hSx.tail.tail.tail.at0.cell 1; have k2 : wx.cell? ⟨w.heap.size, 2, none⟩ = some (.int .u64 s.se) := hSx.tail.tail.tail.at0.cell 2; have k3 : wx.cell? ⟨w.heap.size, 3, none⟩ = some (.int .u64 s.mi) := hSx.tail.tail.tail.at0.cell 3; have k4 : wx.cell? ⟨w.heap.size, 4, none⟩ = some (.int .u64 s.ho) := hSx.tail.tail.tail.at0.cell 4; have k5 : wx.cell? ⟨w.heap.size, 5, none⟩ = some (.int .u64 s.dom) := hSx.tail.tail.tail.at0.cell 5; have k6 : wx.cell? ⟨w.heap.size, 6, none⟩ = some (.int .u64 s.mo) := hSx.tail.tail.tail.at0.cell 6; have k7 : wx.cell? ⟨w.heap.size, 7, none⟩ = some (.int .u64 s.dow) := hSx.tail.tail.tail.at0.cell 7; go_simp; (try with_reducible rfl))
          (try simp only [Act.put, List.getElem_toArray, List.getElem_cons_zero, List.getElem_cons_succ, List.setIfInBounds_toArray, List.set_cons_zero, List.set_cons_succ])
          refine wpAnyH_take (i := 1) (v := ?_) rfl (by kernel_rfl) (by kernel_rfl) (by kernel_rfl) (fun _ _ _ h => nomatch h.1) (Or.inl ⟨by rfl, ?_⟩) (by assumption) ?_
          rotate_left
          · (intro wx hSw; have hSx := hSw.out; rw [HL0.out] at hSx; have k0 : wx.cell? ⟨w.heap.size + 1, 0, none⟩ = some (.int .i64 sec) := hSx.tail.tail.at0.cell 0; have k1 : wx.cell? ⟨w.heap.size + 1, 1, none⟩ = some (.int .i64 ns) := hSx.tail.tail.at0.cell 1; go_simp; (try with_reducible rfl))
          (try simp only [Act.put, List.getElem_toArray, List.getElem_cons_zero, List.getElem_cons_succ, List.setIfInBounds_toArray, List.set_cons_zero, List.set_cons_succ])
          refine wpAnyH_ready (rs := [2, 7]) (by kernel_rfl) (by simp) ?_
          refine (AllReadyH.cons rfl (fun K hK => ?_) (AllReadyH.cons rfl (fun K hK => ?_) AllReadyH.nil))
          · go_simp
            go_at_call 19
            refine (cronUTC_any _).mono ?_
            rintro e v1 ⟨rfl, hb⟩
            have HF1 : Hid (Rws w v1 L0) := Lib.hid (HFd.out.below hb)
            clear hb HFd
            have HN : Hid (Rws w v1 L0) := Lib.hid HF1.out
            refine hK.out _ _ HN (fun hH2 => ?_)
            clear hK K hHeld
            have hHeld := hH2
            clear hH2
            (try simp only [Act.put, List.getElem_toArray, List.getElem_cons_zero, List.getElem_cons_succ, List.setIfInBounds_toArray, List.set_cons_zero, List.set_cons_succ])
            refine wpAnyH_ready (rs := [3, 7]) (by kernel_rfl) (by simp) ?_
            refine (AllReadyH.cons rfl (fun K hK => ?_) (AllReadyH.cons rfl (fun K hK => ?_) AllReadyH.nil))
            · go_simp
              go_at_call 20
              refine (implNext_fix s sec ns h0 h1 first Y0 Hf HY0 yb0 r x b hr hx hok dl hn _).mono ?_
              rintro e v2 ⟨rfl, hb⟩
              have HF2 : Hid (Rws w v2 L0) := Lib.hid (HF1.out.below hb)
              clear hb HF1
              have HN : Hid (Rws w v2 L0) := Lib.hid HF2.out
              refine hK.out _ _ HN (fun hH2 => ?_)
              clear hK K hHeld
              have hHeld := hH2
              clear hH2
              (try simp only [Act.put, List.getElem_toArray, List.getElem_cons_zero, List.getElem_cons_succ, List.setIfInBounds_toArray, List.set_cons_zero, List.set_cons_succ])
              refine wpAnyH_take (i := 4) (v := ?_) rfl (by kernel_rfl) (by kernel_rfl) (by kernel_rfl) (fun _ _ _ h => nomatch h.1) (Or.inl ⟨by rfl, ?_⟩) (by assumption) ?_
              rotate_left
              · (intro wx hSw; go_simp; (try with_reducible rfl))
              (try simp only [Act.put, List.getElem_toArray, List.getElem_cons_zero, List.getElem_cons_succ, List.setIfInBounds_toArray, List.set_cons_zero, List.set_cons_succ])
              refine wpAnyH_take (i := 5) (v := ?_) rfl (by kernel_rfl) (by kernel_rfl) (by kernel_rfl) (fun _ _ _ h => nomatch h.1) (Or.inl ⟨by rfl, ?_⟩) (by assumption) ?_
              rotate_left
              · (intro wx hSw; go_simp; (try with_reducible rfl))
              (try simp only [Act.put, List.getElem_toArray, List.getElem_cons_zero, List.getElem_cons_succ, List.setIfInBounds_toArray, List.set_cons_zero, List.set_cons_succ])
              refine wpAnyH_take (i := 6) (v := ?_) rfl (by kernel_rfl) (by kernel_rfl) (by kernel_rfl) (fun _ _ _ h => nomatch h.1) (Or.inl ⟨by rfl, ?_⟩) (by assumption) ?_
              rotate_left
              · (intro wx hSw; go_simp; (try with_reducible rfl))
              (try simp only [Act.put, List.getElem_toArray, List.getElem_cons_zero, List.getElem_cons_succ, List.setIfInBounds_toArray, List.set_cons_zero, List.set_cons_succ])
              refine wpAnyH_ready (rs := [7]) (by kernel_rfl) (by simp) ?_
              refine (AllReadyH.cons rfl (fun K hK => ?_) AllReadyH.nil)
              go_simp
              obtain ⟨p3, hp⟩ : ∃ p3, p3 = v2.heap.size := ⟨_, rfl⟩
              (try rw [← hp])
              have HLp3 : Hid ((∀ r ∈ L0, r.1 < p3) ∧ w.heap.size ≤ p3) := Lib.hid ⟨by rw [hp]; exact HF2.out.lt, by rw [hp]; exact HF2.out.2.size⟩
              have HF3 : Hid (Rws w (v2.alloc (.cells #[.int .i64 0, .int .i64 0] 24)) ((p3, 24, #[.int .i64 0, .int .i64 0]) :: L0)) := Lib.hid (HF2.out.alloc p3 hp _ _)
              clear HF2 hp
              refine kHeld hK.out (W := v2.alloc (.cells #[.int .i64 0, .int .i64 0] 24)) (Lib.hid HF3.out.tail) (fun hH2 => ?_)
              clear hK K hHeld
              have hHeld := hH2
              clear hH2
              generalize v2.alloc (.cells #[.int .i64 0, .int .i64 0] 24) = a3 at hHeld HF3 ⊢
              (try simp only [Act.put, List.getElem_toArray, List.getElem_cons_zero, List.getElem_cons_succ, List.setIfInBounds_toArray, List.set_cons_zero, List.set_cons_succ])
              refine wpAnyH_ready (rs := [8]) (by kernel_rfl) (by simp) ?_
              refine (AllReadyH.cons rfl (fun K hK => ?_) AllReadyH.nil)
              have c0 : a3.cell? ⟨p3, 0, none⟩ = some (.int .i64 0) := HF3.out.at0.cell 0
              have c1 : a3.cell? ⟨p3, 1, none⟩ = some (.int .i64 0) := HF3.out.at0.cell 1
              have f0 := HF3.out.at0.free 0
              have f1 := HF3.out.at0.free 1
              have HE : Hid (Rws w ((a3.setCell ⟨p3, 0, none⟩ (.int .i64 x)).setCell ⟨p3, 1, none⟩ (.int .i64 0)) ((p3, 24, #[.int .i64 x, .int .i64 0]) :: L0)) := Lib.hid (HF3.out.set2 HLp3.out.1 HLp3.out.2 _ _)
              have HN : Hid (Rws w ((a3.setCell ⟨p3, 0, none⟩ (.int .i64 x)).setCell ⟨p3, 1, none⟩ (.int .i64 0)) L0) := Lib.hid HE.out.tail
              go_simp
              refine hK.out _ _ HN (fun hH2 => ?_)
              clear hK K hHeld
              have hHeld := hH2
              clear hH2
              (try simp only [Act.put, List.getElem_toArray, List.getElem_cons_zero, List.getElem_cons_succ, List.setIfInBounds_toArray, List.set_cons_zero, List.set_cons_succ])
              refine wpAnyH_take (i := 9) (v := ?_) rfl (by kernel_rfl) (by kernel_rfl) (by kernel_rfl) (fun _ _ _ h => nomatch h.1) (Or.inl ⟨by rfl, ?_⟩) (by assumption) ?_
              rotate_left
              · (intro wx hSw; go_simp; (try with_reducible rfl))
              (try simp only [Act.put, List.getElem_toArray, List.getElem_cons_zero, List.getElem_cons_succ, List.setIfInBounds_toArray, List.set_cons_zero, List.set_cons_succ])
              refine wpAnyH_done (by kernel_rfl) ?_ _
              exact ⟨rfl, p3, by (simp only [puts, Act.put, List.setIfInBounds_toArray, List.set_cons_zero, List.set_cons_succ]), HE.out⟩
            · go_simp
              obtain ⟨p4, hp⟩ : ∃ p4, p4 = v1.heap.size := ⟨_, rfl⟩
              (try rw [← hp])
              have HLp4 : Hid ((∀ r ∈ L0, r.1 < p4) ∧ w.heap.size ≤ p4) := Lib.hid ⟨by rw [hp]; exact HF1.out.lt, by rw [hp]; exact HF1.out.2.size⟩
              have HF4 : Hid (Rws w (v1.alloc (.cells #[.int .i64 0, .int .i64 0] 24)) ((p4, 24, #[.int .i64 0, .int .i64 0]) :: L0)) := Lib.hid (HF1.out.alloc p4 hp _ _)
              clear HF1 hp
              refine kHeld hK.out (W := v1.alloc (.cells #[.int .i64 0, .int .i64 0] 24)) (Lib.hid HF4.out.tail) (fun hH2 => ?_)
              clear hK K hHeld
              have hHeld := hH2
              clear hH2
              generalize v1.alloc (.cells #[.int .i64 0, .int .i64 0] 24) = a4 at hHeld HF4 ⊢
              (try simp only [Act.put, List.getElem_toArray, List.getElem_cons_zero, List.getElem_cons_succ, List.setIfInBounds_toArray, List.set_cons_zero, List.set_cons_succ])
              refine wpAnyH_ready (rs := [3]) (by kernel_rfl) (by simp) ?_
              refine (AllReadyH.cons rfl (fun K hK => ?_) AllReadyH.nil)
              go_simp
              go_at_call 20
              refine (implNext_fix s sec ns h0 h1 first Y0 Hf HY0 yb0 r x b hr hx hok dl hn _).mono ?_
              rintro e v5 ⟨rfl, hb⟩
              have HF5 : Hid (Rws w v5 ((p4, 24, #[.int .i64 0, .int .i64 0]) :: L0)) := Lib.hid (HF4.out.below hb)
              clear hb HF4
              have HN : Hid (Rws w v5 L0) := Lib.hid HF5.out.tail
              refine hK.out _ _ HN (fun hH2 => ?_)
              clear hK K hHeld
              have hHeld := hH2
              clear hH2
              (try simp only [Act.put, List.getElem_toArray, List.getElem_cons_zero, List.getElem_cons_succ, List.setIfInBounds_toArray, List.set_cons_zero, List.set_cons_succ])
              refine wpAnyH_take (i := 4) (v := ?_) rfl (by kernel_rfl) (by kernel_rfl) (by kernel_rfl) (fun _ _ _ h => nomatch h.1) (Or.inl ⟨by rfl, ?_⟩) (by assumption) ?_
              rotate_left
              · (intro wx hSw; go_simp; (try with_reducible rfl))
              (try simp only [Act.put, List.getElem_toArray, List.getElem_cons_zero, List.getElem_cons_succ, List.setIfInBounds_toArray, List.set_cons_zero, List.set_cons_succ])
              refine wpAnyH_take (i := 5) (v := ?_) rfl (by kernel_rfl) (by kernel_rfl) (by kernel_rfl) (fun _ _ _ h => nomatch h.1) (Or.inl ⟨by rfl, ?_⟩) (by assumption) ?_
              rotate_left
              · (intro wx hSw; go_simp; (try with_reducible rfl))
              (try simp only [Act.put, List.getElem_toArray, List.getElem_cons_zero, List.getElem_cons_succ, List.setIfInBounds_toArray, List.set_cons_zero, List.set_cons_succ])
              refine wpAnyH_take (i := 6) (v := ?_) rfl (by kernel_rfl) (by kernel_rfl) (by kernel_rfl) (fun _ _ _ h => nomatch h.1) (Or.inl ⟨by rfl, ?_⟩) (by assumption) ?_
              rotate_left
              · (intro wx hSw; go_simp; (try with_reducible rfl))
              (try simp only [Act.put, List.getElem_toArray, List.getElem_cons_zero, List.getElem_cons_succ, List.setIfInBounds_toArray, List.set_cons_zero, List.set_cons_succ])
              refine wpAnyH_ready (rs := [8]) (by kernel_rfl) (by simp) ?_
              refine (AllReadyH.cons rfl (fun K hK => ?_) AllReadyH.nil)
              have c0 : v5.cell? ⟨p4, 0, none⟩ = some (.int .i64 0) := HF5.out.at0.cell 0
              have c1 : v5.cell? ⟨p4, 1, none⟩ = some (.int .i64 0) := HF5.out.at0.cell 1
              have f0 := HF5.out.at0.free 0
              have f1 := HF5.out.at0.free 1
              have HE : Hid (Rws w ((v5.setCell ⟨p4, 0, none⟩ (.int .i64 x)).setCell ⟨p4, 1, none⟩ (.int .i64 0)) ((p4, 24, #[.int .i64 x, .int .i64 0]) :: L0)) := Lib.hid (HF5.out.set2 HLp4.out.1 HLp4.out.2 _ _)
              have HN : Hid (Rws w ((v5.setCell ⟨p4, 0, none⟩ (.int .i64 x)).setCell ⟨p4, 1, none⟩ (.int .i64 0)) L0) := Lib.hid HE.out.tail
              go_simp
              refine hK.out _ _ HN (fun hH2 => ?_)
              clear hK K hHeld
              have hHeld := hH2
              clear hH2
              (try simp only [Act.put, List.getElem_toArray, List.getElem_cons_zero, List.getElem_cons_succ, List.setIfInBounds_toArray, List.set_cons_zero, List.set_cons_succ])
              refine wpAnyH_take (i := 9) (v := ?_) rfl (by kernel_rfl) (by kernel_rfl) (by kernel_rfl) (fun _ _ _ h => nomatch h.1) (Or.inl ⟨by rfl, ?_⟩) (by assumption) ?_
              rotate_left
              · (intro wx hSw; go_simp; (try with_reducible rfl))
              (try simp only [Act.put, List.getElem_toArray, List.getElem_cons_zero, List.getElem_cons_succ, List.setIfInBounds_toArray, List.set_cons_zero, List.set_cons_succ])
              refine wpAnyH_done (by kernel_rfl) ?_ _
              exact ⟨rfl, p4, by (simp only [puts, Act.put, List.setIfInBounds_toArray, List.set_cons_zero, List.set_cons_succ]), HE.out⟩
          · go_simp
            obtain ⟨p6, hp⟩ : ∃ p6, p6 = Wd.heap.size := ⟨_, rfl⟩
            (try rw [← hp])
            have HLp6 : Hid ((∀ r ∈ L0, r.1 < p6) ∧ w.heap.size ≤ p6) := Lib.hid ⟨by rw [hp]; exact HFd.out.lt, by rw [hp]; exact HFd.out.2.size⟩
            have HF6 : Hid (Rws w (Wd.alloc (.cells #[.int .i64 0, .int .i64 0] 24)) ((p6, 24, #[.int .i64 0, .int .i64 0]) :: L0)) := Lib.hid (HFd.out.alloc p6 hp _ _)
            clear HFd hp
            refine kHeld hK.out (W := Wd.alloc (.cells #[.int .i64 0, .int .i64 0] 24)) (Lib.hid HF6.out.tail) (fun hH2 => ?_)
            clear hK K hHeld
            have hHeld := hH2
            clear hH2
            generalize Wd.alloc (.cells #[.int .i64 0, .int .i64 0] 24) = a6 at hHeld HF6 ⊢
            (try simp only [Act.put, List.getElem_toArray, List.getElem_cons_zero, List.getElem_cons_succ, List.setIfInBounds_toArray, List.set_cons_zero, List.set_cons_succ])
            refine wpAnyH_ready (rs := [2]) (by kernel_rfl) (by simp) ?_
            refine (AllReadyH.cons rfl (fun K hK => ?_) AllReadyH.nil)
            go_simp
            go_at_call 19
            refine (cronUTC_any _).mono ?_
            rintro e v7 ⟨rfl, hb⟩
            have HF7 : Hid (Rws w v7 ((p6, 24, #[.int .i64 0, .int .i64 0]) :: L0)) := Lib.hid (HF6.out.below hb)
            clear hb HF6
            have HN : Hid (Rws w v7 L0) := Lib.hid HF7.out.tail
            refine hK.out _ _ HN (fun hH2 => ?_)
            clear hK K hHeld
            have hHeld := hH2
            clear hH2
            (try simp only [Act.put, List.getElem_toArray, List.getElem_cons_zero, List.getElem_cons_succ, List.setIfInBounds_toArray, List.set_cons_zero, List.set_cons_succ])
            refine wpAnyH_ready (rs := [3]) (by kernel_rfl) (by simp) ?_
            refine (AllReadyH.cons rfl (fun K hK => ?_) AllReadyH.nil)
            go_simp
            go_at_call 20
            refine (implNext_fix s sec ns h0 h1 first Y0 Hf HY0 yb0 r x b hr hx hok dl hn _).mono ?_
            rintro e v8 ⟨rfl, hb⟩
            have HF8 : Hid (Rws w v8 ((p6, 24, #[.int .i64 0, .int .i64 0]) :: L0)) := Lib.hid (HF7.out.below hb)
            clear hb HF7
            have HN : Hid (Rws w v8 L0) := Lib.hid HF8.out.tail
            refine hK.out _ _ HN (fun hH2 => ?_)
            clear hK K hHeld
            have hHeld := hH2
            clear hH2
            (try simp only [Act.put, List.getElem_toArray, List.getElem_cons_zero, List.getElem_cons_succ, List.setIfInBounds_toArray, List.set_cons_zero, List.set_cons_succ])
            refine wpAnyH_take (i := 4) (v := ?_) rfl (by kernel_rfl) (by kernel_rfl) (by kernel_rfl) (fun _ _ _ h => nomatch h.1) (Or.inl ⟨by rfl, ?_⟩) (by assumption) ?_
            rotate_left
            · (intro wx hSw; go_simp; (try with_reducible rfl))
            (try simp only [Act.put, List.getElem_toArray, List.getElem_cons_zero, List.getElem_cons_succ, List.setIfInBounds_toArray, List.set_cons_zero, List.set_cons_succ])
            refine wpAnyH_take (i := 5) (v := ?_) rfl (by kernel_rfl) (by kernel_rfl) (by kernel_rfl) (fun _ _ _ h => nomatch h.1) (Or.inl ⟨by rfl, ?_⟩) (by assumption) ?_
            rotate_left
            · (intro wx hSw; go_simp; (try with_reducible rfl))
            (try simp only [Act.put, List.getElem_toArray, List.getElem_cons_zero, List.getElem_cons_succ, List.setIfInBounds_toArray, List.set_cons_zero, List.set_cons_succ])
            refine wpAnyH_take (i := 6) (v := ?_) rfl (by kernel_rfl) (by kernel_rfl) (by kernel_rfl) (fun _ _ _ h => nomatch h.1) (Or.inl ⟨by rfl, ?_⟩) (by assumption) ?_
            rotate_left
            · (intro wx hSw; go_simp; (try with_reducible rfl))
            (try simp only [Act.put, List.getElem_toArray, List.getElem_cons_zero, List.getElem_cons_succ, List.setIfInBounds_toArray, List.set_cons_zero, List.set_cons_succ])
            refine wpAnyH_ready (rs := [8]) (by kernel_rfl) (by simp) ?_
            refine (AllReadyH.cons rfl (fun K hK => ?_) AllReadyH.nil)
            have c0 : v8.cell? ⟨p6, 0, none⟩ = some (.int .i64 0) := HF8.out.at0.cell 0
            have c1 : v8.cell? ⟨p6, 1, none⟩ = some (.int .i64 0) := HF8.out.at0.cell 1
            have f0 := HF8.out.at0.free 0
            have f1 := HF8.out.at0.free 1
            have HE : Hid (Rws w ((v8.setCell ⟨p6, 0, none⟩ (.int .i64 x)).setCell ⟨p6, 1, none⟩ (.int .i64 0)) ((p6, 24, #[.int .i64 x, .int .i64 0]) :: L0)) := Lib.hid (HF8.out.set2 HLp6.out.1 HLp6.out.2 _ _)
            have HN : Hid (Rws w ((v8.setCell ⟨p6, 0, none⟩ (.int .i64 x)).setCell ⟨p6, 1, none⟩ (.int .i64 0)) L0) := Lib.hid HE.out.tail
            go_simp
            refine hK.out _ _ HN (fun hH2 => ?_)
            clear hK K hHeld
            have hHeld := hH2
            clear hH2
            (try simp only [Act.put, List.getElem_toArray, List.getElem_cons_zero, List.getElem_cons_succ, List.setIfInBounds_toArray, List.set_cons_zero, List.set_cons_succ])
            refine wpAnyH_take (i := 9) (v := ?_) rfl (by kernel_rfl) (by kernel_rfl) (by kernel_rfl) (fun _ _ _ h => nomatch h.1) (Or.inl ⟨by rfl, ?_⟩) (by assumption) ?_
            rotate_left
            · (intro wx hSw; go_simp; (try with_reducible rfl))
            (try simp only [Act.put, List.getElem_toArray, List.getElem_cons_zero, List.getElem_cons_succ, List.setIfInBounds_toArray, List.set_cons_zero, List.set_cons_succ])
            refine wpAnyH_done (by kernel_rfl) ?_ _
            exact ⟨rfl, p6, by (simp only [puts, Act.put, List.setIfInBounds_toArray, List.set_cons_zero, List.set_cons_succ]), HE.out⟩
        case hq =>
          rintro p3 W3 hF
          rw [HL0.out] at hF
          (simp only [puts, Act.put, List.setIfInBounds_toArray, List.set_cons_zero, List.set_cons_succ])
          have HQ3 := Lib.hid hF
          clear hF HL0 HQ2 L0
          have u0 : W3.cell? ⟨p1, 0, none⟩ = some (.int .i64 xa) := HQ3.out.tail.tail.at0.cell 0
          have u1 : W3.cell? ⟨p1, 1, none⟩ = some (.int .i64 0) := HQ3.out.tail.tail.at0.cell 1
          have t0 : W3.cell? ⟨p2, 0, none⟩ = some (.int .i64 xb) := HQ3.out.tail.at0.cell 0
          have t1 : W3.cell? ⟨p2, 1, none⟩ = some (.int .i64 0) := HQ3.out.tail.at0.cell 1
          go_wp2_with fail
          refine (earlier_any xa xb ba bb _).mono ?_
          rintro e w6 ⟨rfl, hb⟩
          rw [hE.out.1, hE.out.2]
          have HQ5 := Lib.hid (HQ3.out.below hb)
          clear hb HQ3 u0 u1 t0 t1
          go_wp2_with fail
          have HQ4 := Lib.hid (HQ5.out.alloc w6.heap.size rfl #[.int .i64 x, .int .i64 0] 24)
          clear HQ5
          refine wp_named ?_
          intro W4 hW4
          rw [hW4] at HQ4
          clear hW4
          generalize w6.heap.size = p4 at HQ4 ⊢
          cases b with
          | true =>
            obtain ⟨L0, HL0⟩ : ∃ L0 : List (Nat × TypeId × Array Value), Hid (L0 = [(p4, 24, #[.int .i64 x, .int .i64 0]), (p3, 24, #[.int .i64 x, .int .i64 0]), (p2, 24, #[.int .i64 xb, .int .i64 0]), (p1, 24, #[.int .i64 xa, .int .i64 0]), (w.heap.size + 1, 24, #[.int .i64 sec, .int .i64 ns]), (w.heap.size, 38, #[.bool false, .int .i64 dl, .int .u64 s.se, .int .u64 s.mi, .int .u64 s.ho, .int .u64 s.dom, .int .u64 s.mo, .int .u64 s.dow])]) := ⟨_, rfl⟩
            rw [← HL0.out] at HQ4
            have HFd : Hid (Rws w W4.drew L0) := Lib.hid HQ4.out.drew
            clear HQ4
            refine wp_region_held_drew (S := fun w' => Hid (Rws w w' L0)) (by kernel_rfl) HFd (fun hHeld => ?_)
            clear HFd
            generalize W4.drew = Wd at hHeld ⊢
            (try simp only [Act.put, List.getElem_toArray, List.getElem_cons_zero, List.getElem_cons_succ, List.setIfInBounds_toArray, List.set_cons_zero, List.set_cons_succ])
            refine wpAnyH_take (i := 0) (v := ?_) rfl (by kernel_rfl) (by kernel_rfl) (by kernel_rfl) (fun _ _ _ h => h) (Or.inl ⟨by rfl, ?_⟩) (by assumption) ?_
            rotate_left
            · (intro wx hSw; go_simp; (try with_reducible rfl))
            (try simp only [Act.put, List.getElem_toArray, List.getElem_cons_zero, List.getElem_cons_succ, List.setIfInBounds_toArray, List.set_cons_zero, List.set_cons_succ])
            refine wpAnyH_take (i := 1) (v := ?_) rfl (by kernel_rfl) (by kernel_rfl) (by kernel_rfl) (fun _ _ _ h => h) (Or.inl ⟨by rfl, ?_⟩) (by assumption) ?_
            rotate_left
            · (intro wx hSw; go_simp; (try with_reducible rfl))
            (try simp only [Act.put, List.getElem_toArray, List.getElem_cons_zero, List.getElem_cons_succ, List.setIfInBounds_toArray, List.set_cons_zero, List.set_cons_succ])
            refine wpAnyH_take (i := 2) (v := ?_) rfl (by kernel_rfl) (by kernel_rfl) (by kernel_rfl) (fun _ _ _ h => h) (Or.inl ⟨by rfl, ?_⟩) (by assumption) ?_
            rotate_left
            · (intro wx hSw; go_simp; (try with_reducible rfl))
            (try simp only [Act.put, List.getElem_toArray, List.getElem_cons_zero, List.getElem_cons_succ, List.setIfInBounds_toArray, List.set_cons_zero, List.set_cons_succ])
            refine wpAnyH_take (i := 3) (v := ?_) rfl (by kernel_rfl) (by kernel_rfl) (by kernel_rfl) (fun _ _ _ h => h) (Or.inl ⟨by rfl, ?_⟩) (by assumption) ?_
            rotate_left
            · (intro wx hSw; go_simp; (try with_reducible rfl))
            (try simp only [Act.put, List.getElem_toArray, List.getElem_cons_zero, List.getElem_cons_succ, List.setIfInBounds_toArray, List.set_cons_zero, List.set_cons_succ])
            refine wpAnyH_take (i := 4) (v := ?_) rfl (by kernel_rfl) (by kernel_rfl) (by kernel_rfl) (fun _ _ _ h => h) (Or.inl ⟨by rfl, ?_⟩) (by assumption) ?_
            rotate_left
            · (intro wx hSw; have hSx := hSw.out; rw [HL0.out] at hSx; have k0 : wx.cell? ⟨p3, 0, none⟩ = some (.int .i64 x) := hSx.tail.at0.cell 0; have k1 : wx.cell? ⟨p3, 1, none⟩ = some (.int .i64 0) := hSx.tail.at0.cell 1; go_simp; (try with_reducible rfl))
            (try simp only [Act.put, List.getElem_toArray, List.getElem_cons_zero, List.getElem_cons_succ, List.setIfInBounds_toArray, List.set_cons_zero, List.set_cons_succ])
            refine wpAnyH_take (i := 5) (v := ?_) rfl (by kernel_rfl) (by kernel_rfl) (by kernel_rfl) (fun _ _ _ h => h) (Or.inl ⟨by rfl, ?_⟩) (by assumption) ?_
            rotate_left
            · (intro wx hSw; have hSx := hSw.out; rw [HL0.out] at hSx; have k0 : wx.cell? ⟨p4, 0, none⟩ = some (.int .i64 x) := hSx.at0.cell 0; have k1 : wx.cell? ⟨p4, 1, none⟩ = some (.int .i64 0) := hSx.at0.cell 1; go_simp; (try with_reducible rfl))
            (try simp only [Act.put, List.getElem_toArray, List.getElem_cons_zero, List.getElem_cons_succ, List.setIfInBounds_toArray, List.set_cons_zero, List.set_cons_succ])
            refine wpAnyH_take (i := 6) (v := ?_) rfl (by kernel_rfl) (by kernel_rfl) (by kernel_rfl) (fun _ _ _ h => h) (Or.inl ⟨by rfl, ?_⟩) (by assumption) ?_
            rotate_left
            · (intro wx hSw; go_simp; (try with_reducible rfl))
            (try simp only [Act.put, List.getElem_toArray, List.getElem_cons_zero, List.getElem_cons_succ, List.setIfInBounds_toArray, List.set_cons_zero, List.set_cons_succ])
            refine wpAnyH_take (i := 7) (v := ?_) rfl (by kernel_rfl) (by kernel_rfl) (by kernel_rfl) (fun _ _ _ h => h) (Or.inl ⟨by rfl, ?_⟩) (by assumption) ?_
            rotate_left
            · (intro wx hSw; go_simp; (try with_reducible rfl))
            (try simp only [Act.put, List.getElem_toArray, List.getElem_cons_zero, List.getElem_cons_succ, List.setIfInBounds_toArray, List.set_cons_zero, List.set_cons_succ])
            refine wpAnyH_take (i := 8) (v := ?_) rfl (by kernel_rfl) (by kernel_rfl) (by kernel_rfl) (fun _ _ _ h => h) (Or.inl ⟨by rfl, ?_⟩) (by assumption) ?_
            rotate_left
            · (intro wx hSw; go_simp; (try with_reducible rfl))
            (try simp only [Act.put, List.getElem_toArray, List.getElem_cons_zero, List.getElem_cons_succ, List.setIfInBounds_toArray, List.set_cons_zero, List.set_cons_succ])
            refine wpAnyH_take (i := 9) (v := ?_) rfl (by kernel_rfl) (by kernel_rfl) (by kernel_rfl) (fun _ _ _ h => h) (Or.inl ⟨by rfl, ?_⟩) (by assumption) ?_
            rotate_left
            · (intro wx hSw; go_simp; (try with_reducible rfl))
            (try simp only [Act.put, List.getElem_toArray, List.getElem_cons_zero, List.getElem_cons_succ, List.setIfInBounds_toArray, List.set_cons_zero, List.set_cons_succ])
            refine wpAnyH_take (i := 10) (v := ?_) rfl (by kernel_rfl) (by kernel_rfl) (by kernel_rfl) (fun _ _ _ h => h) (Or.inl ⟨by rfl, ?_⟩) (by assumption) ?_
            rotate_left
            · (intro wx hSw; go_simp; (try with_reducible rfl))
            (try simp only [Act.put, List.getElem_toArray, List.getElem_cons_zero, List.getElem_cons_succ, List.setIfInBounds_toArray, List.set_cons_zero, List.set_cons_succ])
            refine wpAnyH_take (i := 11) (v := undef) rfl (by kernel_rfl) (by kernel_rfl) (by kernel_rfl) (fun _ _ _ h => h) (Or.inr ⟨by rfl, rfl⟩) (by assumption) ?_
            (try simp only [Act.put, List.getElem_toArray, List.getElem_cons_zero, List.getElem_cons_succ, List.setIfInBounds_toArray, List.set_cons_zero, List.set_cons_succ])
            refine wpAnyH_take (i := 12) (v := undef) rfl (by kernel_rfl) (by kernel_rfl) (by kernel_rfl) (fun _ _ _ h => h) (Or.inr ⟨by rfl, rfl⟩) (by assumption) ?_
            (try simp only [Act.put, List.getElem_toArray, List.getElem_cons_zero, List.getElem_cons_succ, List.setIfInBounds_toArray, List.set_cons_zero, List.set_cons_succ])
            refine wpAnyH_take (i := 13) (v := undef) rfl (by kernel_rfl) (by kernel_rfl) (by kernel_rfl) (fun _ _ _ h => h) (Or.inr ⟨by rfl, rfl⟩) (by assumption) ?_
            (try simp only [Act.put, List.getElem_toArray, List.getElem_cons_zero, List.getElem_cons_succ, List.setIfInBounds_toArray, List.set_cons_zero, List.set_cons_succ])
            refine wpAnyH_take (i := 14) (v := undef) rfl (by kernel_rfl) (by kernel_rfl) (by kernel_rfl) (fun _ _ _ h => h) (Or.inr ⟨by rfl, rfl⟩) (by assumption) ?_
            (try simp only [Act.put, List.getElem_toArray, List.getElem_cons_zero, List.getElem_cons_succ, List.setIfInBounds_toArray, List.set_cons_zero, List.set_cons_succ])
            refine wpAnyH_take (i := 15) (v := ?_) rfl (by kernel_rfl) (by kernel_rfl) (by kernel_rfl) (fun _ _ _ h => h) (Or.inl ⟨by rfl, ?_⟩) (by assumption) ?_
            rotate_left
            · (intro wx hSw; go_simp; (try with_reducible rfl))
            (try simp only [Act.put, List.getElem_toArray, List.getElem_cons_zero, List.getElem_cons_succ, List.setIfInBounds_toArray, List.set_cons_zero, List.set_cons_succ])
            refine wpAnyH_take (i := 16) (v := ?_) rfl (by kernel_rfl) (by kernel_rfl) (by kernel_rfl) (fun _ _ _ h => h) (Or.inl ⟨by rfl, ?_⟩) (by assumption) ?_
            rotate_left
            · (intro wx hSw; go_simp; (try with_reducible rfl))
            (try simp only [Act.put, List.getElem_toArray, List.getElem_cons_zero, List.getElem_cons_succ, List.setIfInBounds_toArray, List.set_cons_zero, List.set_cons_succ])
            refine wpAnyH_take (i := 17) (v := ?_) rfl (by kernel_rfl) (by kernel_rfl) (by kernel_rfl) (fun _ _ _ h => h) (Or.inl ⟨by rfl, ?_⟩) (by assumption) ?_
            rotate_left
            · (intro wx hSw; go_simp; (try with_reducible rfl))
            (try simp only [Act.put, List.getElem_toArray, List.getElem_cons_zero, List.getElem_cons_succ, List.setIfInBounds_toArray, List.set_cons_zero, List.set_cons_succ])
            refine wpAnyH_done (by kernel_rfl) ?_ _
            go_wp2_with fail
            go_ret
            exact ⟨rfl, hHeld.out.2⟩
          | false =>
            obtain ⟨L0, HL0⟩ : ∃ L0 : List (Nat × TypeId × Array Value), Hid (L0 = [(p4, 24, #[.int .i64 x, .int .i64 0]), (p3, 24, #[.int .i64 x, .int .i64 0]), (p2, 24, #[.int .i64 xb, .int .i64 0]), (p1, 24, #[.int .i64 xa, .int .i64 0]), (w.heap.size + 1, 24, #[.int .i64 sec, .int .i64 ns]), (w.heap.size, 38, #[.bool false, .int .i64 dl, .int .u64 s.se, .int .u64 s.mi, .int .u64 s.ho, .int .u64 s.dom, .int .u64 s.mo, .int .u64 s.dow])]) := ⟨_, rfl⟩
            rw [← HL0.out] at HQ4
            have HFd : Hid (Rws w W4.drew L0) := Lib.hid HQ4.out.drew
            clear HQ4
            refine wp_region_held_drew (S := fun w' => Hid (Rws w w' L0)) (by kernel_rfl) HFd (fun hHeld => ?_)
            clear HFd
            generalize W4.drew = Wd at hHeld ⊢
            (try simp only [Act.put, List.getElem_toArray, List.getElem_cons_zero, List.getElem_cons_succ, List.setIfInBounds_toArray, List.set_cons_zero, List.set_cons_succ])
            refine wpAnyH_take (i := 0) (v := ?_) rfl (by kernel_rfl) (by kernel_rfl) (by kernel_rfl) (fun _ _ _ h => h) (Or.inl ⟨by rfl, ?_⟩) (by assumption) ?_
            rotate_left
            · (intro wx hSw; go_simp; (try with_reducible rfl))
            (try simp only [Act.put, List.getElem_toArray, List.getElem_cons_zero, List.getElem_cons_succ, List.setIfInBounds_toArray, List.set_cons_zero, List.set_cons_succ])
            refine wpAnyH_take (i := 1) (v := ?_) rfl (by kernel_rfl) (by kernel_rfl) (by kernel_rfl) (fun _ _ _ h => h) (Or.inl ⟨by rfl, ?_⟩) (by assumption) ?_
            rotate_left
            · (intro wx hSw; go_simp; (try with_reducible rfl))
            (try simp only [Act.put, List.getElem_toArray, List.getElem_cons_zero, List.getElem_cons_succ, List.setIfInBounds_toArray, List.set_cons_zero, List.set_cons_succ])
            refine wpAnyH_take (i := 2) (v := ?_) rfl (by kernel_rfl) (by kernel_rfl) (by kernel_rfl) (fun _ _ _ h => h) (Or.inl ⟨by rfl, ?_⟩) (by assumption) ?_
            rotate_left
            · (intro wx hSw; go_simp; (try with_reducible rfl))
            (try simp only [Act.put, List.getElem_toArray, List.getElem_cons_zero, List.getElem_cons_succ, List.setIfInBounds_toArray, List.set_cons_zero, List.set_cons_succ])
            refine wpAnyH_take (i := 3) (v := ?_) rfl (by kernel_rfl) (by kernel_rfl) (by kernel_rfl) (fun _ _ _ h => h) (Or.inl ⟨by rfl, ?_⟩) (by assumption) ?_
            rotate_left
            · (intro wx hSw; go_simp; (try with_reducible rfl))
            (try simp only [Act.put, List.getElem_toArray, List.getElem_cons_zero, List.getElem_cons_succ, List.setIfInBounds_toArray, List.set_cons_zero, List.set_cons_succ])
            refine wpAnyH_take (i := 4) (v := ?_) rfl (by kernel_rfl) (by kernel_rfl) (by kernel_rfl) (fun _ _ _ h => h) (Or.inl ⟨by rfl, ?_⟩) (by assumption) ?_
            rotate_left
            · (intro wx hSw; have hSx := hSw.out; rw [HL0.out] at hSx; have k0 : wx.cell? ⟨p3, 0, none⟩ = some (.int .i64 x) := hSx.tail.at0.cell 0; have k1 : wx.cell? ⟨p3, 1, none⟩ = some (.int .i64 0) := hSx.tail.at0.cell 1; go_simp; (try with_reducible rfl))
            (try simp only [Act.put, List.getElem_toArray, List.getElem_cons_zero, List.getElem_cons_succ, List.setIfInBounds_toArray, List.set_cons_zero, List.set_cons_succ])
            refine wpAnyH_take (i := 5) (v := ?_) rfl (by kernel_rfl) (by kernel_rfl) (by kernel_rfl) (fun _ _ _ h => h) (Or.inl ⟨by rfl, ?_⟩) (by assumption) ?_
            rotate_left
            · (intro wx hSw; have hSx := hSw.out; rw [HL0.out] at hSx; have k0 : wx.cell? ⟨p4, 0, none⟩ = some (.int .i64 x) := hSx.at0.cell 0; have k1 : wx.cell? ⟨p4, 1, none⟩ = some (.int .i64 0) := hSx.at0.cell 1; go_simp; (try with_reducible rfl))
            (try simp only [Act.put, List.getElem_toArray, List.getElem_cons_zero, List.getElem_cons_succ, List.setIfInBounds_toArray, List.set_cons_zero, List.set_cons_succ])
            refine wpAnyH_take (i := 6) (v := ?_) rfl (by kernel_rfl) (by kernel_rfl) (by kernel_rfl) (fun _ _ _ h => h) (Or.inl ⟨by rfl, ?_⟩) (by assumption) ?_
            rotate_left
            · (intro wx hSw; go_simp; (try with_reducible rfl))
            (try simp only [Act.put, List.getElem_toArray, List.getElem_cons_zero, List.getElem_cons_succ, List.setIfInBounds_toArray, List.set_cons_zero, List.set_cons_succ])
            refine wpAnyH_take (i := 7) (v := ?_) rfl (by kernel_rfl) (by kernel_rfl) (by kernel_rfl) (fun _ _ _ h => h) (Or.inl ⟨by rfl, ?_⟩) (by assumption) ?_
            rotate_left
            · (intro wx hSw; go_simp; (try with_reducible rfl))
            (try simp only [Act.put, List.getElem_toArray, List.getElem_cons_zero, List.getElem_cons_succ, List.setIfInBounds_toArray, List.set_cons_zero, List.set_cons_succ])
            refine wpAnyH_take (i := 8) (v := ?_) rfl (by kernel_rfl) (by kernel_rfl) (by kernel_rfl) (fun _ _ _ h => h) (Or.inl ⟨by rfl, ?_⟩) (by assumption) ?_
            rotate_left
            · (intro wx hSw; go_simp; (try with_reducible rfl))
            (try simp only [Act.put, List.getElem_toArray, List.getElem_cons_zero, List.getElem_cons_succ, List.setIfInBounds_toArray, List.set_cons_zero, List.set_cons_succ])
            refine wpAnyH_take (i := 9) (v := ?_) rfl (by kernel_rfl) (by kernel_rfl) (by kernel_rfl) (fun _ _ _ h => h) (Or.inl ⟨by rfl, ?_⟩) (by assumption) ?_
            rotate_left
            · (intro wx hSw; go_simp; (try with_reducible rfl))
            (try simp only [Act.put, List.getElem_toArray, List.getElem_cons_zero, List.getElem_cons_succ, List.setIfInBounds_toArray, List.set_cons_zero, List.set_cons_succ])
            refine wpAnyH_take (i := 10) (v := ?_) rfl (by kernel_rfl) (by kernel_rfl) (by kernel_rfl) (fun _ _ _ h => h) (Or.inl ⟨by rfl, ?_⟩) (by assumption) ?_
            rotate_left
            · (intro wx hSw; go_simp; (try with_reducible rfl))
            (try simp only [Act.put, List.getElem_toArray, List.getElem_cons_zero, List.getElem_cons_succ, List.setIfInBounds_toArray, List.set_cons_zero, List.set_cons_succ])
            refine wpAnyH_take (i := 11) (v := ?_) rfl (by kernel_rfl) (by kernel_rfl) (by kernel_rfl) (fun _ _ _ h => h) (Or.inl ⟨by rfl, ?_⟩) (by assumption) ?_
            rotate_left
            · (intro wx hSw; have hSx := hSw.out; rw [HL0.out] at hSx; have k0 : wx.cell? ⟨w.heap.size, 0, none⟩ = some (.bool false) := hSx.tail.tail.tail.tail.tail.at0.cell 0; have k1 : wx.cell? ⟨w.heap.size, 1, none⟩ = some (.int .i64 dl) := hSx.tail.tail.tail.tail.tail.at0.cell 1; have k2 : wx.cell? ⟨w.heap.size, 2, none⟩ = some (.int .u64 s.se) := hSx.tail.tail.tail.tail.tail.at0.cell 2; have k3 : wx.cell? ⟨w.heap.size, 3, none⟩ = some (.int .u64 s.mi) := hSx.tail.tail.tail.tail.tail.at0.cell 3; have k4 : wx.cell? ⟨w.heap.size, 4, none⟩ = some (.int .u64 s.ho) := hSx.tail.tail.tail.tail.tail.at0.cell 4; have k5 : wx.cell? ⟨w.heap.size, 5, none⟩ = some (.int .u64 s.dom) := hSx.tail.tail.tail.tail.tail.at0.cell 5; have k6 : wx.cell? ⟨w.heap.size, 6, none⟩ = some (.int .u64 s.mo) := hSx.tail.tail.tail.tail.tail.at0.cell 6; have k7 : wx.cell? ⟨w.heap.size, 7, none⟩ = some (.int .u64 s.dow) := hSx.tail.tail.tail.tail.tail.at0.cell 7; go_simp; (try with_reducible rfl))
            (try simp only [Act.put, List.getElem_toArray, List.getElem_cons_zero, List.getElem_cons_succ, List.setIfInBounds_toArray, List.set_cons_zero, List.set_cons_succ])
            refine wpAnyH_take (i := 12) (v := ?_) rfl (by kernel_rfl) (by kernel_rfl) (by kernel_rfl) (fun _ _ _ h => h) (Or.inl ⟨by rfl, ?_⟩) (by assumption) ?_
            rotate_left
            · (intro wx hSw; have hSx := hSw.out; rw [HL0.out] at hSx; have k0 : wx.cell? ⟨w.heap.size + 1, 0, none⟩ = some (.int .i64 sec) := hSx.tail.tail.tail.tail.at0.cell 0; have k1 : wx.cell? ⟨w.heap.size + 1, 1, none⟩ = some (.int .i64 ns) := hSx.tail.tail.tail.tail.at0.cell 1; go_simp; (try with_reducible rfl))
            (try simp only [Act.put, List.getElem_toArray, List.getElem_cons_zero, List.getElem_cons_succ, List.setIfInBounds_toArray, List.set_cons_zero, List.set_cons_succ])
            refine wpAnyH_ready (rs := [13]) (by kernel_rfl) (by simp) ?_
            refine (AllReadyH.cons rfl (fun K hK => ?_) AllReadyH.nil)
            go_simp
            go_at_call 19
            refine (cronUTC_any _).mono ?_
            rintro e vq0 ⟨rfl, hb⟩
            have HN : Hid (Rws w vq0 L0) := Lib.hid (hHeld.out.below hb)
            clear hb
            refine hK.out _ _ HN (fun hH2 => ?_)
            clear hK K hHeld 
            have hHeld := hH2
            clear hH2
            (try simp only [Act.put, List.getElem_toArray, List.getElem_cons_zero, List.getElem_cons_succ, List.setIfInBounds_toArray, List.set_cons_zero, List.set_cons_succ])
            refine wpAnyH_ready (rs := [14]) (by kernel_rfl) (by simp) ?_
            refine (AllReadyH.cons rfl (fun K hK => ?_) AllReadyH.nil)
            go_simp
            go_at_call 21
            refine (none_any s sec ns h0 h1 first Y0 Hf HY0 yb0 r x false hr hx hok dl _).mono ?_
            rintro e vq1 ⟨rfl, hb⟩
            have HN : Hid (Rws w vq1 L0) := Lib.hid (hHeld.out.below hb)
            clear hb
            refine hK.out _ _ HN (fun hH2 => ?_)
            clear hK K hHeld 
            have hHeld := hH2
            clear hH2
            (try simp only [Act.put, List.getElem_toArray, List.getElem_cons_zero, List.getElem_cons_succ, List.setIfInBounds_toArray, List.set_cons_zero, List.set_cons_succ])
            refine wpAnyH_take (i := 15) (v := ?_) rfl (by kernel_rfl) (by kernel_rfl) (by kernel_rfl) (fun _ _ _ h => h) (Or.inl ⟨by rfl, ?_⟩) (by assumption) ?_
            rotate_left
            · (intro wx hSw; go_simp; (try with_reducible rfl))
            (try simp only [Act.put, List.getElem_toArray, List.getElem_cons_zero, List.getElem_cons_succ, List.setIfInBounds_toArray, List.set_cons_zero, List.set_cons_succ])
            refine wpAnyH_take (i := 16) (v := ?_) rfl (by kernel_rfl) (by kernel_rfl) (by kernel_rfl) (fun _ _ _ h => h) (Or.inl ⟨by rfl, ?_⟩) (by assumption) ?_
            rotate_left
            · (intro wx hSw; go_simp; (try with_reducible rfl))
            (try simp only [Act.put, List.getElem_toArray, List.getElem_cons_zero, List.getElem_cons_succ, List.setIfInBounds_toArray, List.set_cons_zero, List.set_cons_succ])
            refine wpAnyH_take (i := 17) (v := ?_) rfl (by kernel_rfl) (by kernel_rfl) (by kernel_rfl) (fun _ _ _ h => h) (Or.inl ⟨by rfl, ?_⟩) (by assumption) ?_
            rotate_left
            · (intro wx hSw; go_simp; (try with_reducible rfl))
            (try simp only [Act.put, List.getElem_toArray, List.getElem_cons_zero, List.getElem_cons_succ, List.setIfInBounds_toArray, List.set_cons_zero, List.set_cons_succ])
            refine wpAnyH_done (by kernel_rfl) ?_ _
            go_wp2_with fail
            go_ret
            exact ⟨rfl, hHeld.out.2⟩
  · -- at once
    go_enter Try.func9, Try.ntmps9
    go_wp2_with fail
    refine (case_any s ev dl sec ns _).mono ?_
    rintro e w1 ⟨rfl, hb⟩
    rw [Hg1.out]
    have HR1 := Lib.hid (HR9.out.below hb)
    clear hb HR9
    cases g1 with
    | false =>
      go_wp2_with fail
      go_ret
      exact ⟨rfl, HR1.out.2⟩
    | true =>
      have e2 : g2 = true := by cases g2 <;> simp_all
      subst e2
      have s5 : w1.cell? ⟨w.heap.size, 5, none⟩ = some (.int .u64 s.dom) := HR1.out.at1.cell 5
      have s7 : w1.cell? ⟨w.heap.size, 7, none⟩ = some (.int .u64 s.dow) := HR1.out.at1.cell 7
      go_wp2_with fail
      go_ret
      exact ⟨rfl, HR1.out.2⟩

end Go.Proofs.Ytpgclepiagfgfaa
