/- spec.ComparePre at two texts that are not empty. -/
import Derived.Test.YtjlbljajgkiniaaDoorSpecPre
import Derived.Test.YtjlbljajgkiniaaDoorSpecIds
import Derived.Test.YtjlbljajgkiniaaDoorVerOps
namespace Go.Proofs.YtjlbljajgkiniaaDoor
open Go.RowKit
set_option linter.unusedVariables false
set_option linter.unusedSimpArgs false

theorem specAt_step (A B : List ByteArray) (n i : Nat) (x y : ByteArray) (hx : A.getD i noStr = x) (hy : B.getD i noStr = y) (h : specPart x y = 0) : specAt A B (n + 1) i = specAt A B n (i + 1) := by
  subst hx; subst hy
  rw [specAt, if_pos h]
theorem specAt_stop (A B : List ByteArray) (n i : Nat) (x y : ByteArray) (hx : A.getD i noStr = x) (hy : B.getD i noStr = y) (h : ¬ specPart x y = 0) : specAt A B (n + 1) i = specPart x y := by
  subst hx; subst hy
  rw [specAt, if_neg h]

/-- What spec.ComparePre gives of two texts that are not empty. -/
def specPreT (s o : ByteArray) : Int := if s.toList == o.toList then 0 else specPre s o

set_option maxRecDepth 100000 in
set_option maxHeartbeats 4000000 in
theorem cpre_any (s o : ByteArray) (hs : s.size ≤ 2147483653) (ho : o.size ≤ 2147483653) (h1 : s.toList.isEmpty = false) (h2 : o.toList.isEmpty = false) (w : World) :
    Calls Tryd.prog 20 #[.string s, .string o] w (PartPost (specPreT s o) w) := by
  unfold specPreT
  cases he : (s.toList == o.toList) with
  | true =>
    rw [if_pos rfl]
    go_enter Tryd.func20, Tryd.ntmps20
    go_wp2_with fail
    go_ret
    exact ⟨rfl, Below.refl _ _⟩
  | false =>
    rw [if_neg (by decide)]
    go_enter Tryd.func20, Tryd.ntmps20
    go_wp2_with fail
    refine (identifiers_any s (by omega) _).mono ?_
    rintro e w1 ⟨v1, rfl, hown1, hb1⟩
    go_wp2_with fail
    refine (identifiers_any o (by omega) _).mono ?_
    rintro e w2 ⟨v2, rfl, hown2, hb2⟩
    have hown1 := own_below hown1 hb2
    have hA := cutB_len 46 s
    have hB := cutB_len 46 o
    have HA := Lib.hid (cutB_ne 46 s)
    have HB := Lib.hid (cutB_ne 46 o)
    have SA := Lib.hid (cutB_size 46 s)
    have SB := Lib.hid (cutB_size 46 o)
    have hgoal : Hid (specPre s o = specAt (cutB 46 s) (cutB 46 o) (min (cutB 46 s).length (cutB 46 o).length) 0) := rfl
    generalize cutB 46 s = A at *
    generalize cutB 46 o = B at *
    obtain ⟨gA, capA, rfl, hcA, hmA, hcellA⟩ := own_open hown1 HA
    obtain ⟨gB, capB, rfl, hcB, hmB, hcellB⟩ := own_open hown2 HB
    have hgA : gA < w2.heap.size := (hown1.lt gA rfl).2
    have hgB : gB < w2.heap.size := (hown2.lt gB rfl).2
    have CA := Lib.hid hcellA
    have CB := Lib.hid hcellB
    have hb : Below w.heap.size w w2 := hb1.trans (hb2.mono hb1.size)
    unfold maxLen at hmA hmB
    clear hown1 hown2 hcellA hcellB hb1 hb2 he h1 h2
    obtain ⟨L, hL1, hL2, hL3⟩ : ∃ L : Nat, L = min A.length B.length ∧ L ≤ A.length ∧ L ≤ B.length := ⟨_, rfl, by omega, by omega⟩
    have HL := Lib.hid hL1
    clear hL1
    go_wp2_with fail
    go_loopw [7] (fun i wr => ∃ k : Nat, k ≤ L ∧ i = .int .i64 k ∧ Hid (specAt A B (L - k) k = specAt A B L 0) ∧ Below w2.heap.size w2 wr) (fun i _ => L - (intOf i).toNat)
    case atStart => exact ⟨0, Nat.zero_le _, rfl, rfl, Below.refl _ _⟩
    case round =>
      obtain ⟨k, hk, rfl, hrec, hbr⟩ := hrel
      by_cases hkL : k < L
      · have hkA : k < A.length := by omega
        have hkB : k < B.length := by omega
        obtain ⟨x, HX⟩ : ∃ x, Hid (A.getD k noStr = x) := ⟨_, rfl⟩
        have HSX : x.size ≤ 2147483654 := by rw [← HX.out]; have := SA.out k; omega
        have hca : wr.cell? ⟨gA, k, none⟩ = some (.string x) := by rw [hbr.cell (p := ⟨gA, k, none⟩) hgA, CA.out k (by omega), HX.out]
        obtain ⟨y, HY⟩ : ∃ y, Hid (B.getD k noStr = y) := ⟨_, rfl⟩
        have HSY : y.size ≤ 2147483654 := by rw [← HY.out]; have := SB.out k; omega
        have hcb : wr.cell? ⟨gB, k, none⟩ = some (.string y) := by rw [hbr.cell (p := ⟨gB, k, none⟩) hgB, CB.out k (by omega), HY.out]
        obtain ⟨R, HR⟩ : ∃ R, Hid (specPart x y = R) := ⟨_, rfl⟩
        go_wp2_with fail
        go_region_held3 (fun w' => w'.cell? ⟨gA, k, none⟩ = some (.string x) ∧ w'.cell? ⟨gB, k, none⟩ = some (.string y)) (first | (refine ⟨?_, ?_⟩ <;> (repeat (first | assumption | (with_reducible refine keepD ?_) | (with_reducible refine keepN ?_) | (with_reducible refine keepV ?_)))) | go_keep)
          (first | (go_at_call 38; refine (cpart_any _ _ HSX HSY _).mono ?_; rintro e w' ⟨rfl, rfl⟩; rw [HR.out]))
        have b9 : ∀ n : Nat, Below w2.heap.size w2 (wr.drewN n) := fun n => below_drewN hbr n
        have b8 : Below w2.heap.size w2 wr.drew := Below.drew hbr
        cases hd : (R != 0) with
        | false =>
          have hd0 : specPart x y = 0 := by rw [HR.out]; simpa using hd
          have HN := Lib.hid (specAt_step A B (L - (k + 1)) k x y HX.out HY.out hd0)
          clear hd0
          go_wp2_with fail
          go_roundw
          case rel => exact ⟨k + 1, by omega, by go_num, by show _ = _; rw [← hrec.out, show L - k = L - (k + 1) + 1 from by omega, HN.out], by repeat (first | assumption | refine below_drewN ?_ _ | refine Below.drew ?_)⟩
          case measure => simp [intOf]; omega
        | true =>
          have hd0 : ¬ specPart x y = 0 := by rw [HR.out]; simpa using hd
          have HN := Lib.hid (specAt_stop A B (L - (k + 1)) k x y HX.out HY.out hd0)
          clear hd0
          go_wp2_with fail
          go_ret
          exact ⟨ret_i64 (by rw [hgoal.out, ← HL.out, ← hrec.out, show L - k = L - (k + 1) + 1 from by omega, HN.out, HR.out]), hb.trans (Below.mono (B := w2.heap.size) (by repeat (first | assumption | refine below_drewN ?_ _ | refine Below.drew ?_)) hb.size)⟩
      · have e0 : L - k = 0 := by omega
        have HE : Hid (segI A.length B.length = specPre s o) := by show _ = _; rw [hgoal.out, ← HL.out, ← hrec.out, e0]; rfl
        have hkk : k = A.length ∨ k = B.length := by have := HL.out; omega
        by_cases hkA : k < A.length
        · have hkB : ¬ k < B.length := by omega
          go_wp2_with fail
          refine (order_any _ _ _).mono ?_
          rintro e w3 ⟨rfl, rfl⟩
          go_wp2_with fail
          go_ret
          exact ⟨ret_i64 HE.out, hb.trans (hbr.mono hb.size)⟩
        · go_wp2_with fail
          refine (order_any _ _ _).mono ?_
          rintro e w3 ⟨rfl, rfl⟩
          go_wp2_with fail
          go_ret
          exact ⟨ret_i64 HE.out, hb.trans (hbr.mono hb.size)⟩
end Go.Proofs.YtjlbljajgkiniaaDoor
