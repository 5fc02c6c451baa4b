/- laws.FnSemverPreInVersion, walked. -/
import Derived.Test.YtdlpcfhhpjjjmaaDoorSpPres
namespace Go.Proofs.YtdlpcfhhpjjjmaaDoor
open Go.RowKit
set_option linter.unusedVariables false
set_option linter.unusedSimpArgs false

theorem row1 (W : World) (g : Nat) (hn : g = W.heap.size) (v1 : VP) : RowAt (W.alloc (.cells #[.int .u64 v1.1, .int .u64 v1.2.1, .int .u64 v1.2.2.1, .string v1.2.2.2.1, .string v1.2.2.2.2] 25)) g [v1] := by
  intro i hi
  rcases i with _ | i
  · exact ⟨(plainAt_last W _ g hn).cell 0, (plainAt_last W _ g hn).cell 1, (plainAt_last W _ g hn).cell 2, (plainAt_last W _ g hn).cell 3, (plainAt_last W _ g hn).cell 4⟩
  · exact absurd hi (by show ¬ i + 1 < 1; omega)

theorem str2 (W : World) (g : Nat) (hn : g = W.heap.size) (y z : ByteArray) : ∀ i, i < [y, z].length → (W.alloc (.cells #[.string y, .string z] 9)).cell? ⟨g, i, none⟩ = some (.string ([y, z].getD i noStr)) := by
  intro i hi
  have e := cell_of_row (W.alloc (.cells #[.string y, .string z] 9)) g i #[.string y, .string z] 9 (0, 0) (by subst hn; exact heap_alloc_new W _)
  rw [e]
  rcases i with _ | _ | i
  · rfl
  · rfl
  · exact absurd hi (by show ¬ i + 1 + 1 < 2; omega)

theorem segI_same (a : Int) : segI a a = 0 := by unfold segI; simp
theorem cmpI_pre (a b c : Int) (q n : ByteArray) (h1 : q.toList.isEmpty = false) (h2 : n.toList.isEmpty = false) : cmpI a b c q a b c n = preI q n := by
  unfold cmpI preC
  rw [segI_same, segI_same, segI_same, h1, h2]; rfl
theorem cmpI_none (a b c : Int) (q : ByteArray) (h1 : q.toList.isEmpty = false) : cmpI a b c q a b c ⟨#[]⟩ = -1 := by
  unfold cmpI preC
  have e0 : (⟨#[]⟩ : ByteArray).toList.isEmpty = true := by first | rfl | decide | simp
  rw [segI_same, segI_same, segI_same, h1, e0]; rfl

set_option maxRecDepth 100000 in
set_option maxHeartbeats 8000000 in
theorem preInv_go (a b c : Int) (p m q n : ByteArray) (hp : p.size ≤ 2147483647) (hq : q.size ≤ 2147483647) (hm : m.size ≤ 2147483647) (hn : n.size ≤ 2147483647) (w : World) (he : Hid (Errs w)) :
    Calls Tryd.prog 4 #[.agg (plainC a b c p m), .string q, .string n] w (BoolPost true w) := by
  go_enter Tryd.func4, Tryd.ntmps4
  go_wp2_with fail
  refine (fits14_any a b c p m true (by simp; omega) _).mono ?_
  rintro e w1 ⟨rfl, rfl⟩
  go_wp2_with fail
  refine (spPres_any _ 2 [q, n] (by simp) (by simp) (fun i => by rcases i with _ | _ | i <;> first | exact hq | exact hn | exact Nat.zero_le _) _ (by simp) (str2 _ _ (by simp) q n)).mono ?_
  rintro e W0 ⟨rfl, hb⟩
  obtain ⟨bs, HBS⟩ : ∃ bs, Hid (presAll [q, n] = bs) := ⟨_, rfl⟩
  rw [HBS.out]
  have A0 : PlainAt (w.alloc (.cells (plainC a b c p m) 25)) w.heap.size (plainC a b c p m) := plainAt_last _ _ _ rfl
  have b0 : Below w.heap.size w W0 := Below.trans (by repeat (first | assumption | exact Below.refl _ _ | refine below_drewN ?_ _ | refine Below.drew ?_ | refine Below.alloc ?_ (by first | omega | (simp <;> omega)) _)) (hb.mono (by simp <;> omega))
  have n0 : w.heap.size + 1 ≤ W0.heap.size := by have := hb.size; simp at this; omega
  have c0 : W0.cell? ⟨w.heap.size, 0, none⟩ = some (.int .u64 a) := keepB hb (by simp <;> omega) (by repeat (first | exact A0.cell 0 | (with_reducible refine keepV ?_)))
  have c1 : W0.cell? ⟨w.heap.size, 1, none⟩ = some (.int .u64 b) := keepB hb (by simp <;> omega) (by repeat (first | exact A0.cell 1 | (with_reducible refine keepV ?_)))
  have c2 : W0.cell? ⟨w.heap.size, 2, none⟩ = some (.int .u64 c) := keepB hb (by simp <;> omega) (by repeat (first | exact A0.cell 2 | (with_reducible refine keepV ?_)))
  have c3 : W0.cell? ⟨w.heap.size, 3, none⟩ = some (.string p) := keepB hb (by simp <;> omega) (by repeat (first | exact A0.cell 3 | (with_reducible refine keepV ?_)))
  have c4 : W0.cell? ⟨w.heap.size, 4, none⟩ = some (.string m) := keepB hb (by simp <;> omega) (by repeat (first | exact A0.cell 4 | (with_reducible refine keepV ?_)))
  clear A0 hb
  cases bs with
  | false =>
    go_wp2_with fail
    go_ret
    exact ⟨rfl, b0⟩
  | true =>
    have hq2 : q.size ≤ 65536 := by have := HBS.out; simp [presAll, presOk, shortOk] at this; omega
    have hn2 : n.size ≤ 65536 := by have := HBS.out; simp [presAll, presOk, shortOk] at this; omega
    have HQ : Hid (q.toList.isEmpty = false) := by have := HBS.out; simp [presAll, presOk, neB] at this; show _ = _; simpa using this.1.1
    have HNN : Hid (n.toList.isEmpty = false) := by have := HBS.out; simp [presAll, presOk, neB] at this; show _ = _; simpa using this.2.1
    go_wp2_with fail
    refine (svGood_any _ 1 [(a, b, c, p, m)] (by simp) (by simp) (fun i => by rcases i with _ | i <;> first | exact ⟨hp, hm⟩ | exact ⟨Nat.zero_le _, Nat.zero_le _⟩) _ (by simp) (row1 _ _ (by simp) (a, b, c, p, m))).mono ?_
    rintro e w' ⟨rfl, hb⟩
    obtain ⟨bg, HBG⟩ : ∃ bg, Hid (goodAll [(a, b, c, p, m)] = bg) := ⟨_, rfl⟩
    rw [HBG.out]
    have kc0 : w'.cell? ⟨w.heap.size, 0, none⟩ = some (.int .u64 a) := (by refine keepB hb (by first | omega | (simp <;> omega)) ?_; (repeat (first | assumption | (with_reducible refine keepD ?_) | (with_reducible refine keepN ?_) | (with_reducible refine keepV ?_)))); have kc1 : w'.cell? ⟨w.heap.size, 1, none⟩ = some (.int .u64 b) := (by refine keepB hb (by first | omega | (simp <;> omega)) ?_; (repeat (first | assumption | (with_reducible refine keepD ?_) | (with_reducible refine keepN ?_) | (with_reducible refine keepV ?_)))); have kc2 : w'.cell? ⟨w.heap.size, 2, none⟩ = some (.int .u64 c) := (by refine keepB hb (by first | omega | (simp <;> omega)) ?_; (repeat (first | assumption | (with_reducible refine keepD ?_) | (with_reducible refine keepN ?_) | (with_reducible refine keepV ?_)))); have kc3 : w'.cell? ⟨w.heap.size, 3, none⟩ = some (.string p) := (by refine keepB hb (by first | omega | (simp <;> omega)) ?_; (repeat (first | assumption | (with_reducible refine keepD ?_) | (with_reducible refine keepN ?_) | (with_reducible refine keepV ?_)))); have kc4 : w'.cell? ⟨w.heap.size, 4, none⟩ = some (.string m) := (by refine keepB hb (by first | omega | (simp <;> omega)) ?_; (repeat (first | assumption | (with_reducible refine keepD ?_) | (with_reducible refine keepN ?_) | (with_reducible refine keepV ?_)))); have bk : Below w.heap.size w w' := Below.trans (by repeat (first | assumption | exact Below.refl _ _ | refine below_drewN ?_ _ | refine Below.drew ?_ | refine Below.alloc ?_ (by first | omega | (simp <;> omega)) _)) (hb.mono (by first | omega | (simp <;> omega))); have nk : w.heap.size + 1 ≤ w'.heap.size := (by have := hb.size; first | omega | (simp at this; omega))
    clear c0 c1 c2 c3 c4 b0 n0 hb
    cases bg with
    | false =>
      go_wp2_with fail
      go_ret
      exact ⟨rfl, bk⟩
    | true =>
      have HC := Lib.hid (cmpI_pre a b c q n HQ.out HNN.out)
      have HL := Lib.hid (cmpI_none a b c q HQ.out)
      obtain ⟨R, HR⟩ : ∃ R, Hid (preI q n = R) := ⟨_, rfl⟩
      have HCR : Hid (cmpI a b c q a b c n = R) := HC.out.trans HR.out
      go_wp2_with fail
      go_region_held3 (fun w' => w'.cell? ⟨w.heap.size, 0, none⟩ = some (.int .u64 a) ∧ w'.cell? ⟨w.heap.size, 1, none⟩ = some (.int .u64 b) ∧ w'.cell? ⟨w.heap.size, 2, none⟩ = some (.int .u64 c) ∧ w'.cell? ⟨w.heap.size, 3, none⟩ = some (.string p) ∧ w'.cell? ⟨w.heap.size, 4, none⟩ = some (.string m)) (first | (refine ⟨?_, ?_, ?_, ?_, ?_⟩ <;> (repeat (first | assumption | (with_reducible refine keepD ?_) | (with_reducible refine keepN ?_) | (with_reducible refine keepV ?_)))) | go_keep)
        (first | (go_at_call 22; refine (svMeta_any _ _ _ _ _ _ _).mono ?_; rintro e w' ⟨rfl, rfl⟩) | (go_at_call 16; refine (svPre_any _ _ _ _ _ _ _).mono ?_; rintro e w' ⟨rfl, rfl⟩) | (go_at_call 21; refine (versionCompare_any _ _ _ _ _ _ _ _ _ _ _ (by first | omega | exact Nat.zero_le _) (by first | omega | exact Nat.zero_le _) (he.below (by repeat (first | assumption | exact Below.refl _ _ | refine below_drewN ?_ _ | refine Below.drew ?_ | refine Below.alloc ?_ (by first | omega | (simp <;> omega)) _)))).mono ?_; rintro e w' ⟨rfl, hb⟩; rw [HCR.out]; have kc0 : w'.cell? ⟨w.heap.size, 0, none⟩ = some (.int .u64 a) := (by refine keepB hb (by first | omega | (simp <;> omega)) ?_; (repeat (first | assumption | (with_reducible refine keepD ?_) | (with_reducible refine keepN ?_) | (with_reducible refine keepV ?_)))); have kc1 : w'.cell? ⟨w.heap.size, 1, none⟩ = some (.int .u64 b) := (by refine keepB hb (by first | omega | (simp <;> omega)) ?_; (repeat (first | assumption | (with_reducible refine keepD ?_) | (with_reducible refine keepN ?_) | (with_reducible refine keepV ?_)))); have kc2 : w'.cell? ⟨w.heap.size, 2, none⟩ = some (.int .u64 c) := (by refine keepB hb (by first | omega | (simp <;> omega)) ?_; (repeat (first | assumption | (with_reducible refine keepD ?_) | (with_reducible refine keepN ?_) | (with_reducible refine keepV ?_)))); have kc3 : w'.cell? ⟨w.heap.size, 3, none⟩ = some (.string p) := (by refine keepB hb (by first | omega | (simp <;> omega)) ?_; (repeat (first | assumption | (with_reducible refine keepD ?_) | (with_reducible refine keepN ?_) | (with_reducible refine keepV ?_)))); have kc4 : w'.cell? ⟨w.heap.size, 4, none⟩ = some (.string m) := (by refine keepB hb (by first | omega | (simp <;> omega)) ?_; (repeat (first | assumption | (with_reducible refine keepD ?_) | (with_reducible refine keepN ?_) | (with_reducible refine keepV ?_)))); have bk : Below w.heap.size w w' := Below.trans (by repeat (first | assumption | exact Below.refl _ _ | refine below_drewN ?_ _ | refine Below.drew ?_ | refine Below.alloc ?_ (by first | omega | (simp <;> omega)) _)) (hb.mono (by first | omega | (simp <;> omega))); have nk : w.heap.size + 1 ≤ w'.heap.size := (by have := hb.size; first | omega | (simp at this; omega))) | (go_at_call 17; refine (implPre_any _ _ (by omega) (by omega) _ (he.below (by repeat (first | assumption | exact Below.refl _ _ | refine below_drewN ?_ _ | refine Below.drew ?_ | refine Below.alloc ?_ (by first | omega | (simp <;> omega)) _)))).mono ?_; rintro e w' ⟨rfl, hb⟩; rw [HR.out]; have kc0 : w'.cell? ⟨w.heap.size, 0, none⟩ = some (.int .u64 a) := (by refine keepB hb (by first | omega | (simp <;> omega)) ?_; (repeat (first | assumption | (with_reducible refine keepD ?_) | (with_reducible refine keepN ?_) | (with_reducible refine keepV ?_)))); have kc1 : w'.cell? ⟨w.heap.size, 1, none⟩ = some (.int .u64 b) := (by refine keepB hb (by first | omega | (simp <;> omega)) ?_; (repeat (first | assumption | (with_reducible refine keepD ?_) | (with_reducible refine keepN ?_) | (with_reducible refine keepV ?_)))); have kc2 : w'.cell? ⟨w.heap.size, 2, none⟩ = some (.int .u64 c) := (by refine keepB hb (by first | omega | (simp <;> omega)) ?_; (repeat (first | assumption | (with_reducible refine keepD ?_) | (with_reducible refine keepN ?_) | (with_reducible refine keepV ?_)))); have kc3 : w'.cell? ⟨w.heap.size, 3, none⟩ = some (.string p) := (by refine keepB hb (by first | omega | (simp <;> omega)) ?_; (repeat (first | assumption | (with_reducible refine keepD ?_) | (with_reducible refine keepN ?_) | (with_reducible refine keepV ?_)))); have kc4 : w'.cell? ⟨w.heap.size, 4, none⟩ = some (.string m) := (by refine keepB hb (by first | omega | (simp <;> omega)) ?_; (repeat (first | assumption | (with_reducible refine keepD ?_) | (with_reducible refine keepN ?_) | (with_reducible refine keepV ?_)))); have bk : Below w.heap.size w w' := Below.trans (by repeat (first | assumption | exact Below.refl _ _ | refine below_drewN ?_ _ | refine Below.drew ?_ | refine Below.alloc ?_ (by first | omega | (simp <;> omega)) _)) (hb.mono (by first | omega | (simp <;> omega))); have nk : w.heap.size + 1 ≤ w'.heap.size := (by have := hb.size; first | omega | (simp at this; omega))) | (go_at_call 23; refine (versionLess_any _ _ _ _ _ _ _ _ _ _ _ (by first | omega | exact Nat.zero_le _) (by first | omega | exact Nat.zero_le _) (he.below (by repeat (first | assumption | exact Below.refl _ _ | refine below_drewN ?_ _ | refine Below.drew ?_ | refine Below.alloc ?_ (by first | omega | (simp <;> omega)) _)))).mono ?_; rintro e w' ⟨rfl, hb⟩; rw [HL.out]; have kc0 : w'.cell? ⟨w.heap.size, 0, none⟩ = some (.int .u64 a) := (by refine keepB hb (by first | omega | (simp <;> omega)) ?_; (repeat (first | assumption | (with_reducible refine keepD ?_) | (with_reducible refine keepN ?_) | (with_reducible refine keepV ?_)))); have kc1 : w'.cell? ⟨w.heap.size, 1, none⟩ = some (.int .u64 b) := (by refine keepB hb (by first | omega | (simp <;> omega)) ?_; (repeat (first | assumption | (with_reducible refine keepD ?_) | (with_reducible refine keepN ?_) | (with_reducible refine keepV ?_)))); have kc2 : w'.cell? ⟨w.heap.size, 2, none⟩ = some (.int .u64 c) := (by refine keepB hb (by first | omega | (simp <;> omega)) ?_; (repeat (first | assumption | (with_reducible refine keepD ?_) | (with_reducible refine keepN ?_) | (with_reducible refine keepV ?_)))); have kc3 : w'.cell? ⟨w.heap.size, 3, none⟩ = some (.string p) := (by refine keepB hb (by first | omega | (simp <;> omega)) ?_; (repeat (first | assumption | (with_reducible refine keepD ?_) | (with_reducible refine keepN ?_) | (with_reducible refine keepV ?_)))); have kc4 : w'.cell? ⟨w.heap.size, 4, none⟩ = some (.string m) := (by refine keepB hb (by first | omega | (simp <;> omega)) ?_; (repeat (first | assumption | (with_reducible refine keepD ?_) | (with_reducible refine keepN ?_) | (with_reducible refine keepV ?_)))); have bk : Below w.heap.size w w' := Below.trans (by repeat (first | assumption | exact Below.refl _ _ | refine below_drewN ?_ _ | refine Below.drew ?_ | refine Below.alloc ?_ (by first | omega | (simp <;> omega)) _)) (hb.mono (by first | omega | (simp <;> omega))); have nk : w.heap.size + 1 ≤ w'.heap.size := (by have := hb.size; first | omega | (simp at this; omega))))
      go_wp2_with fail
      go_ret
      exact ⟨rfl, (by repeat (first | assumption | exact Below.refl _ _ | refine below_drewN ?_ _ | refine Below.drew ?_ | refine Below.alloc ?_ (by first | omega | (simp <;> omega)) _))⟩

set_option maxRecDepth 100000 in
set_option maxHeartbeats 2000000 in
theorem preInv_fa (a b c : Int) (p m q n : ByteArray) (h : (decide (p.size ≤ 2147483647) && decide (m.size ≤ 2147483647)) = false) (w : World) :
    Calls Tryd.prog 4 #[.agg (plainC a b c p m), .string q, .string n] w (BoolPost true w) := by
  have H := Lib.hid h
  clear h
  go_enter Tryd.func4, Tryd.ntmps4
  go_wp2_with fail
  refine (fits14_any a b c p m false H.out _).mono ?_
  rintro e w1 ⟨rfl, rfl⟩
  go_wp2_with fail
  go_ret
  exact ⟨rfl, (by repeat (first | assumption | exact Below.refl _ _ | refine below_drewN ?_ _ | refine Below.drew ?_ | refine Below.alloc ?_ (by first | omega | (simp <;> omega)) _))⟩

set_option maxRecDepth 100000 in
set_option maxHeartbeats 2000000 in
theorem preInv_fq (a b c : Int) (p m q n : ByteArray) (h : (decide (p.size ≤ 2147483647) && decide (m.size ≤ 2147483647)) = true) (hq : 2147483647 < q.size) (w : World) :
    Calls Tryd.prog 4 #[.agg (plainC a b c p m), .string q, .string n] w (BoolPost true w) := by
  have H := Lib.hid h
  clear h
  go_enter Tryd.func4, Tryd.ntmps4
  go_wp2_with fail
  refine (fits14_any a b c p m true H.out _).mono ?_
  rintro e w1 ⟨rfl, rfl⟩
  go_wp2_with fail
  go_ret
  exact ⟨rfl, (by repeat (first | assumption | exact Below.refl _ _ | refine below_drewN ?_ _ | refine Below.drew ?_ | refine Below.alloc ?_ (by first | omega | (simp <;> omega)) _))⟩

set_option maxRecDepth 100000 in
set_option maxHeartbeats 2000000 in
theorem preInv_fn (a b c : Int) (p m q n : ByteArray) (h : (decide (p.size ≤ 2147483647) && decide (m.size ≤ 2147483647)) = true) (hq : ¬ 2147483647 < q.size) (hn : 2147483647 < n.size) (w : World) :
    Calls Tryd.prog 4 #[.agg (plainC a b c p m), .string q, .string n] w (BoolPost true w) := by
  have H := Lib.hid h
  clear h
  go_enter Tryd.func4, Tryd.ntmps4
  go_wp2_with fail
  refine (fits14_any a b c p m true H.out _).mono ?_
  rintro e w1 ⟨rfl, rfl⟩
  go_wp2_with fail
  go_ret
  exact ⟨rfl, (by repeat (first | assumption | exact Below.refl _ _ | refine below_drewN ?_ _ | refine Below.drew ?_ | refine Below.alloc ?_ (by first | omega | (simp <;> omega)) _))⟩

theorem preInv_any (a b c : Int) (p m q n : ByteArray) (_w0 : (Lit.int .u64 a).wf = true) (_w1 : (Lit.int .u64 b).wf = true) (_w2 : (Lit.int .u64 c).wf = true) (_w3 : p.size ≤ maxLen) (_w4 : m.size ≤ maxLen) (_w5 : q.size ≤ maxLen) (_w6 : n.size ≤ maxLen) (w : World) (he : Hid (Errs w)) :
    Calls Tryd.prog 4 #[.agg #[.int .u64 a, .int .u64 b, .int .u64 c, .string p, .string m], .string q, .string n] w fun e w' => e = .returned (.bool true) ∧ Below w.heap.size w w' := by
  cases h1 : (decide (p.size ≤ 2147483647) && decide (m.size ≤ 2147483647)) with
  | false => exact preInv_fa a b c p m q n h1 w
  | true =>
    by_cases hq : 2147483647 < q.size
    · exact preInv_fq a b c p m q n h1 hq w
    · by_cases hn : 2147483647 < n.size
      · exact preInv_fn a b c p m q n h1 hq hn w
      · simp only [Bool.and_eq_true, decide_eq_true_eq] at h1
        exact preInv_go a b c p m q n h1.1 (by omega) h1.2 (by omega) w he
end Go.Proofs.YtdlpcfhhpjjjmaaDoor
