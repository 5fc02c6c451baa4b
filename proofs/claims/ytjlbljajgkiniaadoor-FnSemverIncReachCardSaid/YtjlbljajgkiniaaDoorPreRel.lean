/- semver.comparePrerelease. -/
import Derived.Test.YtjlbljajgkiniaaDoorPrePart
import Derived.Test.YtjlbljajgkiniaaDoorSplitSv
namespace Go.Proofs.YtjlbljajgkiniaaDoor
open Go.RowKit

def noStr : ByteArray := ⟨#[]⟩

def partsAt (A B : List ByteArray) : Nat → Nat → Int
  | 0, _ => 0
  | n + 1, i => if partI (A.getD i noStr) (B.getD i noStr) = 0 then partsAt A B n (i + 1) else partI (A.getD i noStr) (B.getD i noStr)

/-- What comparePrerelease gives. -/
def preI (s o : ByteArray) : Int := partsAt (cutB 46 s) (cutB 46 o) (max (cutB 46 s).length (cutB 46 o).length) 0

theorem own_below {w w' : World} {base : Nat} {e : TypeId} {size : Nat} {v : Value} {n : Nat} {xs : List Value} (h : w.ownsRow base e size v n xs) (hb : Below w.heap.size w w') : w'.ownsRow base e size v n xs :=
  h.kept (row := none) ⟨hb.os, hb.tape, hb.output, hb.size, fun i hi _ => hb.block i hi⟩ (by cases v.ownBlock <;> simp)

/-- A slice of the call's own with texts, opened: where it lies, and each cell. -/
theorem own_open {w : World} {base : Nat} {e : TypeId} {v : Value} {l : List ByteArray} (h : w.ownsRow base e 1 v l.length (strsV l)) (hl : l ≠ []) :
    ∃ g cap, v = .slice (some ⟨g, 0, none⟩) l.length cap ∧ l.length ≤ cap ∧ cap ≤ maxLen ∧ ∀ i, i < l.length → w.cell? ⟨g, i, none⟩ = some (.string (l.getD i noStr)) := by
  have h0 := h
  obtain ⟨_, h⟩ := h
  rcases h with ⟨_, h1⟩ | ⟨g, cap, cur, rfl, _, _, hc, hm, _, _⟩
  · exact absurd (List.eq_nil_of_length_eq_zero h1) hl
  · refine ⟨g, cap, rfl, hc, hm, fun i hi => ?_⟩
    rw [h0.cellAt i (by omega)]
    simp [strsV, List.getD, List.getElem?_eq_getElem hi]

theorem cutB_size (c : Int) (s : ByteArray) (i : Nat) : ((cutB c s).getD i noStr).size ≤ s.size := by
  unfold cutB
  rw [← str_len s]
  generalize s.data.toList = l
  have key : ∀ l : List UInt8, ∀ x ∈ cutL c l, x.length ≤ l.length := by
    intro l
    induction l with
    | nil => intro x hx; simp [cutL] at hx; subst hx; simp
    | cons y ys ih =>
      intro x hx
      unfold cutL at hx
      split at hx
      · rcases List.mem_cons.mp hx with rfl | h
        · simp
        · have := ih x h; simp; omega
      · split at hx
        · simp at hx; subst hx; simp
        · rename_i z zs hz
          rcases List.mem_cons.mp hx with rfl | h
          · have := ih z (by rw [hz]; simp); simp; omega
          · have := ih x (by rw [hz]; simp [h]); simp; omega
  rcases Nat.lt_or_ge i (cutL c l).length with hi | hi
  · have e : ((cutL c l).map fun l => (⟨l.toArray⟩ : ByteArray)).getD i noStr = ⟨((cutL c l)[i]).toArray⟩ := by
      simp [List.getD, hi]
    rw [e]
    have := key l _ (List.getElem_mem hi)
    show ((cutL c l)[i]).toArray.size ≤ _
    simpa using this
  · have e : ((cutL c l).map fun l => (⟨l.toArray⟩ : ByteArray)).getD i noStr = noStr := by
      simp [List.getD, hi]
    rw [e]
    exact Nat.zero_le _

theorem getD_past (l : List ByteArray) (i : Nat) (h : l.length ≤ i) : l.getD i noStr = noStr := by
  simp [List.getD, h]

theorem partsAt_step (A B : List ByteArray) (n i : Nat) (x y : ByteArray) (hx : A.getD i noStr = x) (hy : B.getD i noStr = y) (h : partI x y = 0) : partsAt A B (n + 1) i = partsAt A B n (i + 1) := by
  subst hx; subst hy
  rw [partsAt, if_pos h]
theorem partsAt_stop (A B : List ByteArray) (n i : Nat) (x y : ByteArray) (hx : A.getD i noStr = x) (hy : B.getD i noStr = y) (h : ¬ partI x y = 0) : partsAt A B (n + 1) i = partI x y := by
  subst hx; subst hy
  rw [partsAt, if_neg h]

set_option maxRecDepth 100000 in
set_option maxHeartbeats 1000000 in
theorem preRel_loop (s o : ByteArray) (hs : s.size ≤ 2147483654) (ho : o.size ≤ 2147483654) (w : World) (he : Hid (Errs w)) :
    Calls Tryd.prog 59 #[.string s, .string o] w (PartPost (preI s o) w) := by
  go_enter Tryd.func59, Tryd.ntmps59
  go_wp2_with fail
  refine (splitSv_any s 46 (by omega) _).mono ?_
  rintro e w1 ⟨v1, rfl, hown1, hb1⟩
  go_wp2_with fail
  refine (splitSv_any o 46 (by omega) _).mono ?_
  rintro e w2 ⟨v2, rfl, hown2, hb2⟩
  have hown1 := own_below hown1 hb2
  have e46 : ((46 : UInt8).toNat : Int) = 46 := rfl
  rw [e46] at hown1 hown2
  clear e46
  have hA := cutB_len 46 s
  have hB := cutB_len 46 o
  have HA := Lib.hid (cutB_ne 46 s)
  have HB := Lib.hid (cutB_ne 46 o)
  have SA := Lib.hid (cutB_size 46 s)
  have SB := Lib.hid (cutB_size 46 o)
  have hgoal : Hid (preI s o = partsAt (cutB 46 s) (cutB 46 o) (max (cutB 46 s).length (cutB 46 o).length) 0) := rfl
  generalize cutB 46 s = A at *
  generalize cutB 46 o = B at *
  obtain ⟨gA, capA, rfl, hcA, hmA, hcellA⟩ := own_open hown1 HA
  obtain ⟨gB, capB, rfl, hcB, hmB, hcellB⟩ := own_open hown2 HB
  have hgA : gA < w2.heap.size := (hown1.lt gA rfl).2
  have hgB : gB < w2.heap.size := (hown2.lt gB rfl).2
  have CA := Lib.hid hcellA
  have CB := Lib.hid hcellB
  have hb : Below w.heap.size w w2 := hb1.trans (hb2.mono hb1.size)
  unfold maxLen at hmA hmB
  clear hown1 hown2 hcellA hcellB hb1 hb2
  obtain ⟨L, hL1, hL2, hL3⟩ : ∃ L : Nat, L = max A.length B.length ∧ A.length ≤ L ∧ B.length ≤ L := ⟨_, rfl, by omega, by omega⟩
  have HL := Lib.hid hL1
  clear hL1
  by_cases hmx : B.length ≤ A.length
  · have hLA : L ≤ A.length := by rw [HL.out]; omega
    have hdd : decide (A.length < B.length) = false := decide_eq_false (by omega)
    go_wp2_with fail
    go_loopw [10, 11, 12] (fun i _ _ wr => ∃ k : Nat, k ≤ L ∧ i = .int .i64 k ∧ Hid (partsAt A B (L - k) k = partsAt A B L 0) ∧ Below w2.heap.size w2 wr) (fun i _ _ _ => L - (intOf i).toNat)
    case atStart => exact ⟨0, Nat.zero_le _, rfl, rfl, Below.refl _ _⟩
    case round =>
      obtain ⟨k, hk, rfl, hrec, hbr⟩ := hrel
      by_cases hkL : k < L
      · obtain ⟨x, HX⟩ : ∃ x, Hid (A.getD k noStr = x) := ⟨_, rfl⟩
        have HSX : Hid (x.size ≤ 2147483655) := by show _ ≤ _; rw [← HX.out]; have := SA.out k; omega
        have hca : wr.cell? ⟨gA, k, none⟩ = some (.string x) := by rw [hbr.cell (p := ⟨gA, k, none⟩) hgA, CA.out k (by omega), HX.out]
        by_cases hkB : k < B.length
        · obtain ⟨y, HY⟩ : ∃ y, Hid (B.getD k noStr = y) := ⟨_, rfl⟩
          have HSY : Hid (y.size ≤ 2147483655) := by show _ ≤ _; rw [← HY.out]; have := SB.out k; omega
          have hcb : wr.cell? ⟨gB, k, none⟩ = some (.string y) := by rw [hbr.cell (p := ⟨gB, k, none⟩) hgB, CB.out k (by omega), HY.out]
          go_wp2_with fail
          refine (prePart_any _ _ HSX.out HSY.out _ (he.below (hb.trans (hbr.mono hb.size)))).mono ?_
          rintro e w3 ⟨rfl, hb3⟩
          have hb4 : Below w2.heap.size w2 w3 := hbr.trans (hb3.mono hbr.size)
          by_cases hd : partI x y = 0
          · have HN := Lib.hid (partsAt_step A B (L - (k + 1)) k x y HX.out HY.out hd)
            have hd1 : (partI x y != 0) = false := by rw [hd]; rfl
            clear hd
            go_wp2_with fail
            go_roundw
            case rel => exact ⟨k + 1, by omega, by go_num, by show _ = _; rw [← hrec.out, show L - k = L - (k + 1) + 1 from by omega, HN.out], hb4⟩
            case measure => simp [intOf]; omega
          · have HN := Lib.hid (partsAt_stop A B (L - (k + 1)) k x y HX.out HY.out hd)
            have hd1 : (partI x y != 0) = true := by rw [bne_iff_ne]; exact hd
            clear hd
            go_wp2_with fail
            go_ret
            exact ⟨ret_i64 (by rw [hgoal.out, ← HL.out, ← hrec.out, show L - k = L - (k + 1) + 1 from by omega, HN.out]), hb.trans (hb4.mono hb.size)⟩
        · obtain ⟨y, hy⟩ : ∃ y : ByteArray, y = ⟨#[]⟩ := ⟨_, rfl⟩
          have HY : Hid (B.getD k noStr = y) := by show _ = _; rw [getD_past B k (by omega), hy]; rfl
          have HSY : Hid (y.size ≤ 2147483655) := by show _ ≤ _; rw [hy]; exact Nat.zero_le _
          subst hy
          go_wp2_with fail
          refine (prePart_any _ _ HSX.out HSY.out _ (he.below (hb.trans (hbr.mono hb.size)))).mono ?_
          rintro e w3 ⟨rfl, hb3⟩
          have hb4 : Below w2.heap.size w2 w3 := hbr.trans (hb3.mono hbr.size)
          by_cases hd : partI x ⟨#[]⟩ = 0
          · have HN := Lib.hid (partsAt_step A B (L - (k + 1)) k x ⟨#[]⟩ HX.out HY.out hd)
            have hd1 : (partI x ⟨#[]⟩ != 0) = false := by rw [hd]; rfl
            clear hd
            go_wp2_with fail
            go_roundw
            case rel => exact ⟨k + 1, by omega, by go_num, by show _ = _; rw [← hrec.out, show L - k = L - (k + 1) + 1 from by omega, HN.out], hb4⟩
            case measure => simp [intOf]; omega
          · have HN := Lib.hid (partsAt_stop A B (L - (k + 1)) k x ⟨#[]⟩ HX.out HY.out hd)
            have hd1 : (partI x ⟨#[]⟩ != 0) = true := by rw [bne_iff_ne]; exact hd
            clear hd
            go_wp2_with fail
            go_ret
            exact ⟨ret_i64 (by rw [hgoal.out, ← HL.out, ← hrec.out, show L - k = L - (k + 1) + 1 from by omega, HN.out]), hb.trans (hb4.mono hb.size)⟩
      · go_wp2_with fail
        go_ret
        have e0 : L - k = 0 := by omega
        exact ⟨ret_i64 (by rw [hgoal.out, ← HL.out, ← hrec.out, e0]; rfl), hb.trans (hbr.mono hb.size)⟩
  · have hLB : L ≤ B.length := by rw [HL.out]; omega
    have hdd : decide (A.length < B.length) = true := decide_eq_true (by omega)
    go_wp2_with fail
    go_loopw [10, 11, 12] (fun i _ _ wr => ∃ k : Nat, k ≤ L ∧ i = .int .i64 k ∧ Hid (partsAt A B (L - k) k = partsAt A B L 0) ∧ Below w2.heap.size w2 wr) (fun i _ _ _ => L - (intOf i).toNat)
    case atStart => exact ⟨0, Nat.zero_le _, rfl, rfl, Below.refl _ _⟩
    case round =>
      obtain ⟨k, hk, rfl, hrec, hbr⟩ := hrel
      by_cases hkL : k < L
      · obtain ⟨y, HY⟩ : ∃ y, Hid (B.getD k noStr = y) := ⟨_, rfl⟩
        have HSY : Hid (y.size ≤ 2147483655) := by show _ ≤ _; rw [← HY.out]; have := SB.out k; omega
        have hcb : wr.cell? ⟨gB, k, none⟩ = some (.string y) := by rw [hbr.cell (p := ⟨gB, k, none⟩) hgB, CB.out k (by omega), HY.out]
        by_cases hkA : k < A.length
        · obtain ⟨x, HX⟩ : ∃ x, Hid (A.getD k noStr = x) := ⟨_, rfl⟩
          have HSX : Hid (x.size ≤ 2147483655) := by show _ ≤ _; rw [← HX.out]; have := SA.out k; omega
          have hca : wr.cell? ⟨gA, k, none⟩ = some (.string x) := by rw [hbr.cell (p := ⟨gA, k, none⟩) hgA, CA.out k (by omega), HX.out]
          go_wp2_with fail
          refine (prePart_any _ _ HSX.out HSY.out _ (he.below (hb.trans (hbr.mono hb.size)))).mono ?_
          rintro e w3 ⟨rfl, hb3⟩
          have hb4 : Below w2.heap.size w2 w3 := hbr.trans (hb3.mono hbr.size)
          by_cases hd : partI x y = 0
          · have HN := Lib.hid (partsAt_step A B (L - (k + 1)) k x y HX.out HY.out hd)
            have hd1 : (partI x y != 0) = false := by rw [hd]; rfl
            clear hd
            go_wp2_with fail
            go_roundw
            case rel => exact ⟨k + 1, by omega, by go_num, by show _ = _; rw [← hrec.out, show L - k = L - (k + 1) + 1 from by omega, HN.out], hb4⟩
            case measure => simp [intOf]; omega
          · have HN := Lib.hid (partsAt_stop A B (L - (k + 1)) k x y HX.out HY.out hd)
            have hd1 : (partI x y != 0) = true := by rw [bne_iff_ne]; exact hd
            clear hd
            go_wp2_with fail
            go_ret
            exact ⟨ret_i64 (by rw [hgoal.out, ← HL.out, ← hrec.out, show L - k = L - (k + 1) + 1 from by omega, HN.out]), hb.trans (hb4.mono hb.size)⟩
        · obtain ⟨x, hx⟩ : ∃ x : ByteArray, x = ⟨#[]⟩ := ⟨_, rfl⟩
          have HX : Hid (A.getD k noStr = x) := by show _ = _; rw [getD_past A k (by omega), hx]; rfl
          have HSX : Hid (x.size ≤ 2147483655) := by show _ ≤ _; rw [hx]; exact Nat.zero_le _
          subst hx
          go_wp2_with fail
          refine (prePart_any _ _ HSX.out HSY.out _ (he.below (hb.trans (hbr.mono hb.size)))).mono ?_
          rintro e w3 ⟨rfl, hb3⟩
          have hb4 : Below w2.heap.size w2 w3 := hbr.trans (hb3.mono hbr.size)
          by_cases hd : partI ⟨#[]⟩ y = 0
          · have HN := Lib.hid (partsAt_step A B (L - (k + 1)) k ⟨#[]⟩ y HX.out HY.out hd)
            have hd1 : (partI ⟨#[]⟩ y != 0) = false := by rw [hd]; rfl
            clear hd
            go_wp2_with fail
            go_roundw
            case rel => exact ⟨k + 1, by omega, by go_num, by show _ = _; rw [← hrec.out, show L - k = L - (k + 1) + 1 from by omega, HN.out], hb4⟩
            case measure => simp [intOf]; omega
          · have HN := Lib.hid (partsAt_stop A B (L - (k + 1)) k ⟨#[]⟩ y HX.out HY.out hd)
            have hd1 : (partI ⟨#[]⟩ y != 0) = true := by rw [bne_iff_ne]; exact hd
            clear hd
            go_wp2_with fail
            go_ret
            exact ⟨ret_i64 (by rw [hgoal.out, ← HL.out, ← hrec.out, show L - k = L - (k + 1) + 1 from by omega, HN.out]), hb.trans (hb4.mono hb.size)⟩
      · go_wp2_with fail
        go_ret
        have e0 : L - k = 0 := by omega
        exact ⟨ret_i64 (by rw [hgoal.out, ← HL.out, ← hrec.out, e0]; rfl), hb.trans (hbr.mono hb.size)⟩
end Go.Proofs.YtjlbljajgkiniaaDoor
