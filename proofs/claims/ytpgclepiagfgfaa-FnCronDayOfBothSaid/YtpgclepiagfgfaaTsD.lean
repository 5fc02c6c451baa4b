/- spec.CronFieldsOf. -/
import Derived.Test.YtpgclepiagfgfaaTsC
namespace Go.Proofs.Ytpgclepiagfgfaa
open Go.RowKit
set_option linter.unusedVariables false
set_option linter.unusedSimpArgs false

def lowK (k : Nat) : Nat := if k = 3 then 1 else if k = 4 then 1 else 0
def highK (k : Nat) : Nat := if k = 2 then 23 else if k = 3 then 31 else if k = 4 then 12 else if k = 5 then 6 else 59
def bitsK (s : Sched) (k : Nat) : Nat := if k = 0 then s.se else if k = 1 then s.mi else if k = 2 then s.ho else if k = 3 then s.dom else if k = 4 then s.mo else s.dow
def inK (s : Sched) (k i : Nat) : Bool := decide (lowK k ≤ i) && decide (i < highK k + 1) && (bitsK s k).testBit i
def setK (s : Sched) (k : Nat) : List Value := setL ((bitsK s k).testBit 63) (inK s k)
def fieldsL (s : Sched) : List Value := setK s 0 ++ (setK s 1 ++ (setK s 2 ++ (setK s 3 ++ (setK s 4 ++ setK s 5))))
theorem setK_len (s : Sched) (k : Nat) : (setK s k).length = 64 := setL_len _ _
theorem fieldsL_len (s : Sched) : (fieldsL s).length = 384 := by simp [fieldsL, setK_len]
theorem rangeAt_app {w : World} {g o : Nat} {l m : List Value} (h : w.rangeAt g o l) (k : w.rangeAt g (o + l.length) m) : w.rangeAt g o (l ++ m) := fun j v hv => by
  by_cases hj : j < l.length
  · rw [List.getElem?_append_left hj] at hv; exact h j v hv
  · rw [List.getElem?_append_right (by omega)] at hv
    have := k (j - l.length) v hv
    rw [show o + l.length + (j - l.length) = o + j by omega] at this
    exact this
theorem app_left {w : World} {g o : Nat} {l m : List Value} (h : w.rangeAt g o (l ++ m)) : w.rangeAt g o l := fun j v hv => h j v (by rw [List.getElem?_append_left (List.getElem?_eq_some_iff.1 hv).1]; exact hv)
theorem app_right {w : World} {g o : Nat} {l m : List Value} (h : w.rangeAt g o (l ++ m)) : w.rangeAt g (o + l.length) m := fun j v hv => by
  have := h (l.length + j) v (by rw [List.getElem?_append_right (by omega)]; rw [show l.length + j - l.length = j by omega]; exact hv)
  rw [show o + (l.length + j) = o + l.length + j by omega] at this
  exact this
theorem fields_range {w : World} {g : Nat} {s : Sched} (h : ∀ k, k < 6 → w.rangeAt g (k * 64) (setK s k)) : w.rangeAt g 0 (fieldsL s) := by
  refine rangeAt_app (h 0 (by omega)) ?_
  rw [setK_len]
  refine rangeAt_app (h 1 (by omega)) ?_
  rw [setK_len]
  refine rangeAt_app (h 2 (by omega)) ?_
  rw [setK_len]
  refine rangeAt_app (h 3 (by omega)) ?_
  rw [setK_len]
  refine rangeAt_app (h 4 (by omega)) ?_
  rw [setK_len]
  exact h 5 (by omega)
theorem range_fields {w : World} {g : Nat} {s : Sched} (h : w.rangeAt g 0 (fieldsL s)) : ∀ k, k < 6 → w.rangeAt g (k * 64) (setK s k) := by
  have h0 := app_left h
  have r1 := app_right h
  rw [setK_len] at r1
  have h1 := app_left r1
  have r2 := app_right r1
  rw [setK_len] at r2
  have h2 := app_left r2
  have r3 := app_right r2
  rw [setK_len] at r3
  have h3 := app_left r3
  have r4 := app_right r3
  rw [setK_len] at r4
  have h4 := app_left r4
  have h5 := app_right r4
  rw [setK_len] at h5
  intro k hk
  rcases k with _ | _ | _ | _ | _ | _ | k
  · exact h0
  · exact h1
  · exact h2
  · exact h3
  · exact h4
  · exact h5
  · omega
theorem rangeAt_below {w w' : World} {g o : Nat} {l : List Value} (h : w.rangeAt g o l) (hb : Below w.heap.size w w') : w'.rangeAt g o l := fun j v hv => by
  have := h j v hv
  have hl := World.block_lt_of_cell? w _ this
  exact (hb.cell (p := ⟨g, o + j, none⟩) hl).trans this
theorem there_below {w w' : World} {g o n : Nat} (h : w.there g o n) (hb : Below w.heap.size w w') : w'.there g o n := fun j hj => by
  obtain ⟨h1, h2⟩ := h j hj
  obtain ⟨v, hv⟩ := Option.isSome_iff_exists.1 h1
  have hl := World.block_lt_of_cell? w _ hv
  exact ⟨by rw [hb.cell (p := ⟨g, o + j, none⟩) hl]; exact h1, by rw [hb.frozen (p := ⟨g, o + j, none⟩) hl]; exact h2⟩
theorem there_part {w : World} {g n o m : Nat} (h : w.there g 0 n) (hm : o + m ≤ n) : w.there g o m := fun j hj => by
  have := h (o + j) (by omega)
  rw [show 0 + (o + j) = o + j by omega] at this
  exact this
theorem infoCF : (Try.prog.info? 46).map (·.size) = some 384 := by kernel_rfl
theorem fieldsL_one (s : Sched) : (fieldsL s).toArray.all (·.oneCell') = true := all_oneCell_toArray (fun v hv => by
  have key : ∀ k, v ∈ setK s k → v.oneCell' = true := fun k h => by
    unfold setK setL at h
    rcases List.mem_cons.1 h with rfl | h
    · rfl
    · obtain ⟨i, _, rfl⟩ := List.mem_map.1 h
      rfl
  unfold fieldsL at hv
  rcases List.mem_append.1 hv with h | hv
  · exact key 0 h
  rcases List.mem_append.1 hv with h | hv
  · exact key 1 h
  rcases List.mem_append.1 hv with h | hv
  · exact key 2 h
  rcases List.mem_append.1 hv with h | hv
  · exact key 3 h
  rcases List.mem_append.1 hv with h | hv
  · exact key 4 h
  · exact key 5 hv)
theorem numLow (k : Nat) (hk : k < 6) : NumIs 46 k (lowK k) := by
  intro w
  rcases k with _ | _ | _ | _ | _ | _ | k
  all_goals first
    | omega
    | (go_enter Try.func46, Try.ntmps46
       go_wp2_with fail
       go_ret
       exact ⟨rfl, rfl⟩)
theorem numHigh (k : Nat) (hk : k < 6) : NumIs 47 k (highK k) := by
  intro w
  rcases k with _ | _ | _ | _ | _ | _ | k
  all_goals first
    | omega
    | (go_enter Try.func47, Try.ntmps47
       go_wp2_with fail
       go_ret
       exact ⟨rfl, rfl⟩)
theorem bitsK_lt (s : Sched) (hok : s.ok) (k : Nat) : bitsK s k < 18446744073709551616 := by
  obtain ⟨h0, h1, h2, h3, h4, h5⟩ := hok
  unfold bitsK
  split <;> (try split) <;> (try split) <;> (try split) <;> (try split) <;> assumption
theorem setOfK_any (s : Sched) (hok : s.ok) (k : Nat) (hk : k < 6) (w : World) :
    Calls Try.prog 43 #[.int .i64 k, .int .u64 (bitsK s k)] w fun e w' => e = .returned (.agg (setK s k).toArray) ∧ Below w.heap.size w w' :=
  setOf_any k (lowK k) (highK k) (by rcases k with _ | _ | _ | _ | _ | _ | k <;> first | omega | decide) (by rcases k with _ | _ | _ | _ | _ | _ | k <;> first | omega | decide) (Lib.hid (numLow k hk)) (Lib.hid (numHigh k hk)) (bitsK s k) (bitsK_lt s hok k) (inK s k) (Lib.hid fun i => rfl) w
theorem index6 (s : Sched) (i : Nat) (hi : i < 6) (W : World) : (Instr.index 81 (.agg #[.int .u64 s.se, .int .u64 s.mi, .int .u64 s.ho, .int .u64 s.dom, .int .u64 s.mo, .int .u64 s.dow]) (.int .i64 i)).run Try.prog W = .ok (.int .u64 (bitsK s i)) W := by
  rcases i with _ | _ | _ | _ | _ | _ | i
  · kernel_rfl
  · kernel_rfl
  · kernel_rfl
  · kernel_rfl
  · kernel_rfl
  · kernel_rfl
  · omega
set_option maxRecDepth 100000 in
set_option maxHeartbeats 4000000 in
theorem fieldsOf_any (s : Sched) (hok : s.ok) (dl : Int) (w : World) :
    Calls Try.prog 18 #[.agg #[.bool false, .int .i64 dl, .int .u64 s.se, .int .u64 s.mi, .int .u64 s.ho, .int .u64 s.dom, .int .u64 s.mo, .int .u64 s.dow]] w fun e w' => e = .returned (.agg (fieldsL s).toArray) ∧ Below w.heap.size w w' := by
  go_enter Try.func18, Try.ntmps18
  go_wp2_with fail
  refine wp_named ?_
  intro W2 hW2
  obtain ⟨g, hg⟩ : ∃ g, g = w.heap.size := ⟨_, rfl⟩
  have HT2 : Hid (W2.there (g + 2) 0 384) := by rw [← hW2, hg]; exact there_new _ _ _ _ _ (by simp) (by kernel_rfl)
  have HT1 : Hid (W2.there (g + 1) 0 384) := by rw [← hW2, hg]; exact World.there_alloc (there_new _ _ _ _ _ (by simp) (by kernel_rfl)) _
  have bk : Below w.heap.size w W2 := by rw [← hW2]; exact (by repeat (first | (with_reducible assumption) | (with_reducible exact Below.refl _ _) | (with_reducible refine Below.setCell ?_ (by first | omega | (simp <;> omega)) _) | refine below_drewN ?_ _ | refine Below.drew ?_ | refine Below.alloc ?_ (by first | omega | (simp <;> omega)) _))
  have hgw : w.heap.size ≤ g := by omega
  rw [← hg]
  clear hW2 hg
  go_loopw [19] (fun v wr => ∃ n : Nat, n ≤ 6 ∧ v = .int .i64 n ∧ Hid (∀ k, k < n → wr.rangeAt (g + 2) (k * 64) (setK s k)) ∧ Hid (wr.there (g + 2) 0 384) ∧ Hid (wr.there (g + 1) 0 384) ∧ Below w.heap.size w wr) (fun v _ => 6 - (intOf v).toNat)
  case atStart => exact ⟨0, by omega, rfl, Lib.hid (fun k hk => by omega), HT2, HT1, bk⟩
  case round =>
    clear HT2 HT1 bk
    obtain ⟨n, hn, rfl, hR, hT2, hT1, hbr⟩ := hrel
    by_cases hlt : n < 6
    · have hx := fun W => index6 s n hlt W
      have hl : ((n : Int) < 6) = True := eq_true (by omega)
      obtain ⟨bn, Hbn⟩ : ∃ bn, Hid (bitsK s n = bn) := ⟨_, rfl⟩
      rw [Hbn.out] at hx
      have HC := setOfK_any s hok n hlt
      rw [Hbn.out] at HC
      have HC2 := Lib.hid HC
      clear HC
      go_wp2_with fail
      refine (HC2.out _).mono ?_
      rintro e w1 ⟨rfl, hb⟩
      have hR2 : Hid (∀ k, k < n → w1.rangeAt (g + 2) (k * 64) (setK s k)) := Lib.hid (fun k hk => rangeAt_below (hR.out k hk) hb)
      have hT3 : Hid (w1.there (g + 2) 0 384) := Lib.hid (there_below hT2.out hb)
      have hT4 : Hid (w1.there (g + 1) 0 384) := Lib.hid (there_below hT1.out hb)
      have hb2 := hbr.trans (hb.mono hbr.size)
      clear hb hR hT2 hT1 hbr
      have hTn : w1.there (g + 2) (n * 64) (setK s n).toArray.size := there_part hT3.out (by simp [setK_len]; omega)
      go_wp2_with (first | (refine wpList_store_mid rfl 44 (.tmp 27) (.tmp 26) rfl (g + 2) (n * 64) (setK s n).toArray (by simp [Act.eval]) rfl hTn (infoCS.trans (by simp [setK_len])) (setL_one _ _) (stop_here ?_)))
      have hR3 : Hid (∀ k, k < n + 1 → (w1.setCells (g + 2) (n * 64) (setK s n)).rangeAt (g + 2) (k * 64) (setK s k)) := Lib.hid (fun k hk => by
        by_cases e : k = n
        · subst e; exact World.rangeAt_setCells_same _ _ _ _ (by rw [setK_len]; simpa [setK_len] using hTn)
        · exact World.rangeAt_setCells_apart (hR2.out k (by omega)) _ _ _ (by right; left; rw [setK_len]; omega))
      have hT5 : Hid ((w1.setCells (g + 2) (n * 64) (setK s n)).there (g + 2) 0 384) := Lib.hid (World.there_setCells hT3.out _ _ _)
      have hT6 : Hid ((w1.setCells (g + 2) (n * 64) (setK s n)).there (g + 1) 0 384) := Lib.hid (World.there_setCells hT4.out _ _ _)
      have hb3 : Below w.heap.size w (w1.setCells (g + 2) (n * 64) (setK s n)) := below_setCells (by omega) _ _ _ hb2
      clear hTn hT3 hT4 hR2 hb2
      generalize w1.setCells (g + 2) (n * 64) (setK s n) = w2 at *
      unfold Stop
      go_wp2_with fail
      go_roundw
      case rel => exact ⟨n + 1, by omega, by go_num, hR3, hT5, hT6, hb3⟩
      case measure => simp [intOf]; omega
    · obtain rfl : n = 6 := by omega
      have HF := Lib.hid (fields_range hR.out)
      go_wp2_with (first | (refine wpList_load_mid rfl 46 (.tmp 3) rfl (g + 2) 0 (by simp [Act.eval]) (fieldsL s) _ HF.out Try.underlying46 rfl (infoCF.trans (by rw [fieldsL_len])) ?_) | (refine wpList_store_mid rfl 46 (.tmp 2) (.tmp 29) rfl (g + 1) 0 (fieldsL s).toArray rfl rfl (by simpa [fieldsL_len] using hT1.out) (infoCF.trans (by simp [fieldsL_len])) (fieldsL_one s) ?_))
      have hfin : ((wr.setCells (g + 1) 0 (fieldsL s).toArray.toList)).rangeAt (g + 1) 0 (fieldsL s) := by
        have := World.rangeAt_setCells_same wr (g + 1) 0 (fieldsL s) (by rw [fieldsL_len]; exact hT1.out)
        simpa using this
      have hbel : Below w.heap.size w (wr.setCells (g + 1) 0 (fieldsL s).toArray.toList) := below_setCells (by omega) _ _ _ hbr
      refine bodyPost_ret (v := .agg (fieldsL s).toArray) ?_ rfl ⟨rfl, hbel⟩
      have e9 : (fieldsL s).toArray.toList = fieldsL s := by simp
      rw [e9] at hfin
      generalize wr.setCells (g + 1) 0 (fieldsL s) = W9 at hfin ⊢
      have hlv := run_loadVar_mid (P := Try.prog) W9 (g + 1) 0 46 (fieldsL s) _ hfin Try.underlying46 rfl (infoCF.trans (by rw [fieldsL_len]))
      clear hR hT1 hT2 HF hfin hbel e9
      generalize (fieldsL s).toArray = V9 at hlv ⊢
      simp [results, Try.results18, Act.put, Sem.run_bind, asAddr, hlv]

end Go.Proofs.Ytpgclepiagfgfaa
