/- spec.CronTwoOptional, CronOptions, CronTakes; laws.cronTaken. The options with an optional day of the week; both texts' fields. An option that has been put in is there. -/
import Derived.Test.YtkhggefbkhdimaaGreatDoorFeB
import Derived.Test.YtkhggefbkhdimaaGreatDoorFeG
namespace Go.Proofs.YtkhggefbkhdimaaGreatDoor
open Go.RowKit
set_option linter.unusedVariables false
set_option linter.unusedSimpArgs false

def twoO (o : Int) : Bool := (bits .and .i64 o 2 != 0) && (bits .and .i64 o 128 != 0)
theorem two_any (o : Int) (w : World) : Calls Tryz.prog 39 #[.int .i64 o] w fun e w' => e = .returned (.bool (twoO o)) ∧ w = w' := by
  unfold twoO
  cases h1 : (bits .and .i64 o 2 != 0) <;> cases h2 : (bits .and .i64 o 128 != 0)
  all_goals
    go_enter Tryz.func39, Tryz.ntmps39
    go_wp2_with fail
    go_ret
    exact ⟨rfl, rfl⟩
def optsO (o : Int) : Bool := (decide (0 ≤ o) && decide (o < 512)) && !twoO o
theorem opts_any (o : Int) (w : World) : Calls Tryz.prog 12 #[.int .i64 o] w fun e w' => e = .returned (.bool (optsO o)) ∧ w = w' := by
  have HT := Lib.hid (fun w => two_any o w)
  unfold optsO
  cases h1 : decide (0 ≤ o) <;> cases h2 : decide (o < 512) <;> cases h3 : twoO o
  all_goals
    rw [h3] at HT
    clear h3
    go_enter Tryz.func12, Tryz.ntmps12
    go_wp2_with (first | (go_at_call 39; refine (HT.out _).mono ?_; rintro e w' ⟨rfl, rfl⟩))
    go_ret
    exact ⟨rfl, rfl⟩
def maskO : Nat → Int
  | 0 => 3 | 1 => 4 | 2 => 8 | 3 => 16 | 4 => 32 | _ => 192
def tkO (o : Int) (k : Nat) : Bool := bits .and .i64 o (maskO k) != 0
theorem takes_any (o : Int) (k : Nat) (hk : k < 6) (w : World) : Calls Tryz.prog 31 #[.int .i64 o, .int .i64 k] w fun e w' => e = .returned (.bool (tkO o k)) ∧ Below w.heap.size w w' := by
  have h2 : k = 0 ∨ k = 1 ∨ k = 2 ∨ k = 3 ∨ k = 4 ∨ k = 5 := by omega
  unfold tkO
  rcases h2 with rfl | rfl | rfl | rfl | rfl | rfl
  all_goals
    go_enter Tryz.func31, Tryz.ntmps31
    go_wp2_with fail
    go_ret
    exact ⟨rfl, Below.alloc (Below.refl _ _) (Nat.le_refl _) _⟩
theorem taken_any (o : Int) (w : World) : Calls Tryz.prog 14 #[.int .i64 o] w fun e w' => e = .returned (.int .i64 (cntT (tkO o) 6 : Nat)) ∧ Below w.heap.size w w' := by
  have HT := Lib.hid (fun k hk w => takes_any o k hk w)
  generalize tkO o = tk at *
  go_enter Tryz.func14, Tryz.ntmps14
  go_wp2_with fail
  go_loopw [3, 5] (fun n i wr => ∃ j : Nat, j ≤ 6 ∧ i = .int .i64 j ∧ n = .int .i64 (cntT tk j : Nat) ∧ Below w.heap.size w wr) (fun _ i _ => 6 - (intOf i).toNat)
  case atStart => exact ⟨0, by omega, rfl, rfl, Below.refl _ _⟩
  case round =>
    obtain ⟨j, hj, rfl, rfl, hb⟩ := hrel
    by_cases hlt : j < 6
    · have q8 : decide ((j : Int) < 6) = true := decide_eq_true (by omega)
      have hcl := cnt_le tk j
      have HCN : Hid (cntT tk (j + 1) = cntT tk j + (if tk j = true then 1 else 0)) := Lib.hid rfl
      have HTj := Lib.hid (fun w => HT.out j hlt w)
      cases htk : tk j with
      | true =>
        have HCN2 : Hid ((((cntT tk j : Nat) : Int) + 1) = ((cntT tk (j + 1) : Nat) : Int)) := Lib.hid (by rw [HCN.out, htk]; simp)
        rw [htk] at HTj
        clear htk
        go_wp2_with fail
        refine (HTj.out _).mono ?_
        rintro e w2 ⟨rfl, hb2⟩
        have hb3 := hb.trans (hb2.mono hb.size)
        clear hb2
        go_wp2_with fail
        rw [HCN2.out]
        go_roundw
        case rel => exact ⟨j + 1, by omega, by go_num, rfl, hb3⟩
        case measure => simp [intOf]; omega
      | false =>
        have HCN2 : Hid (cntT tk (j + 1) = cntT tk j) := Lib.hid (by rw [HCN.out, htk]; simp)
        rw [htk] at HTj
        clear htk
        go_wp2_with fail
        refine (HTj.out _).mono ?_
        rintro e w2 ⟨rfl, hb2⟩
        have hb3 := hb.trans (hb2.mono hb.size)
        clear hb2
        go_wp2_with fail
        go_roundw
        case rel => exact ⟨j + 1, by omega, by go_num, by rw [HCN2.out], hb3⟩
        case measure => simp [intOf]; omega
    · have ej : j = 6 := by omega
      subst ej
      go_wp2_with fail
      go_ret
      exact ⟨rfl, hb⟩
end Go.Proofs.YtkhggefbkhdimaaGreatDoor

namespace Go.Proofs.YtkhggefbkhdimaaGreatDoor
open Go.RowKit
set_option linter.unusedVariables false
set_option linter.unusedSimpArgs false

def dowChk (o : Int) : Bool := decide (0 < bits .and .i64 o 2) == false && (decide (0 < bits .and .i64 o 128) == true && (decide (0 < bits .and .i64 (bits .or .i64 o 64) 128) == true &&
  ((List.range 6).all (fun i => decide (0 < bits .and .i64 (bits .or .i64 o 64) (place i)) == tkO o i) && tkO o 5)))
set_option maxRecDepth 100000 in
theorem dow_all : (List.range 512).all (fun n => !(optsO n && (bits .and .i64 n 128 != 0)) || dowChk n) = true := by decide +kernel
structure DowO (o : Int) : Prop where
  q2 : decide (0 < bits .and .i64 o 2) = false
  q7 : decide (0 < bits .and .i64 o 128) = true
  q7b : decide (0 < bits .and .i64 (bits .or .i64 o 64) 128) = true
  ht : ∀ i, i < 6 → decide (0 < bits .and .i64 (bits .or .i64 o 64) (place i)) = tkO o i
  t5 : tkO o 5 = true
theorem dowO_of (o : Int) (h : optsO o = true) (h7 : bits .and .i64 o 128 ≠ 0) : DowO o := by
  have h' := h
  unfold optsO at h'
  simp only [Bool.and_eq_true, decide_eq_true_eq] at h'
  obtain ⟨⟨h0, h1⟩, _⟩ := h'
  obtain ⟨n, rfl⟩ : ∃ n : Nat, o = n := ⟨o.toNat, by omega⟩
  have hn := (List.all_eq_true.1 dow_all) n (List.mem_range.2 (by omega))
  rw [h, Bool.true_and] at hn
  have h8 : (bits .and .i64 (n : Int) 128 != 0) = true := by simpa using h7
  rw [h8] at hn
  simp only [Bool.not_true, Bool.false_or, dowChk, Bool.and_eq_true, beq_iff_eq] at hn
  obtain ⟨a, b, c, d, e⟩ := hn
  refine ⟨a, b, c, fun i hi => ?_, e⟩
  have := (List.all_eq_true.1 d) i (List.mem_range.2 hi)
  simpa using this
theorem dow_two (o : Int) (h : DowO o) : ¬ (0 < bits .and .i64 o 128 ∧ 0 < bits .and .i64 o 2) := fun ⟨_, h2⟩ => absurd h2 (of_decide_eq_false h.q2)
/-- The fields' texts. -/
def dowF (o : Int) (ws : List ByteArray) (i : Nat) : List UInt8 := ((expE (tkO o) (ws ++ [starT]) 6).getD i noStr).data.toList
theorem mkB_back (x : ByteArray) : mkB x.data.toList = x := by unfold mkB; rfl
theorem norm_dowA (o : Int) (h : DowO o) (ws : List ByteArray) (hl : ws ≠ []) (hn : ws.length + 1 = cntT (tkO o) 6) : NormIs o ws (dowF o ws) := by
  intro W B v hown hB
  refine (norm_dowM o (tkO o) h.q2 h.q7 h.q7b (Lib.hid h.ht) v ws W B hown hB hl hn).mono ?_
  rintro e w' ⟨G, rfl, hc, hG, hg⟩
  exact ⟨G, rfl, fun i hi => by rw [hc i hi, dowF, mkB_back], hG, hg⟩
theorem norm_dowB (o : Int) (h : DowO o) (ws : List ByteArray) (hn : ws.length + 1 = cntT (tkO o) 6) : NormIs o (ws ++ [starT]) (dowF o ws) := by
  intro W B v hown hB
  refine (norm_dowF o (tkO o) h.q2 h.q7 h.q7b (Lib.hid h.ht) v (ws ++ [starT]) W B hown hB (by simp) (by simpa using hn)).mono ?_
  rintro e w' ⟨G, rfl, hc, hG, hg⟩
  exact ⟨G, rfl, fun i hi => by rw [hc i hi, dowF, mkB_back], hG, hg⟩
theorem dowF_five (o : Int) (h : DowO o) (ws : List ByteArray) (hn : ws.length + 1 = cntT (tkO o) 6) : dowF o ws 5 = [42] := by
  have h6 : cntT (tkO o) 6 = cntT (tkO o) 5 + 1 := by
    show cntT (tkO o) 5 + (if tkO o 5 = true then 1 else 0) = _
    rw [h.t5]; rfl
  have hl : ws.length = cntT (tkO o) 5 := by omega
  unfold dowF expE
  simp [List.getD, h.t5, ← hl, starT]
theorem wordsB_star (s t : ByteArray) (ht : t.data.toList = s.data.toList ++ [32, 42]) : wordsB t = wordsB s ++ [starT] := by
  unfold wordsB wordsL
  rw [ht, words_star, List.map_append]
  rfl
end Go.Proofs.YtkhggefbkhdimaaGreatDoor

namespace Go.Proofs.YtkhggefbkhdimaaGreatDoor
open Go.RowKit
set_option linter.unusedVariables false

theorem ofInt_wrap (v : BitVec 64) : BitVec.ofInt 64 (IntKind.i64.wrap (v.toNat : Int)) = v := by
  apply BitVec.eq_of_toNat_eq
  rw [BitVec.toNat_ofInt, IntKind.wrap_i64]
  have := v.isLt
  omega
theorem put_dow (o : Int) : (bits .and .i64 (bits .or .i64 o 128) 128 != 0) = true := by
  have h : BitVec.ofInt 64 (bits .or .i64 o 128) = BitVec.ofInt 64 o ||| BitVec.ofInt 64 128 := ofInt_wrap _
  have h2 : bits .and .i64 (bits .or .i64 o 128) 128 = IntKind.i64.wrap ((BitVec.ofInt 64 (bits .or .i64 o 128) &&& BitVec.ofInt 64 128).toNat : Int) := rfl
  have h3 : ∀ a b : BitVec 64, (a ||| b) &&& b = b := fun a b => by
    apply BitVec.eq_of_getLsbD_eq
    intro i hi
    rw [BitVec.getLsbD_and, BitVec.getLsbD_or]
    cases a.getLsbD i <;> cases b.getLsbD i <;> rfl
  rw [h2, h, h3]
  decide +kernel
theorem dowO_put (o : Int) (h : optsO (bits .or .i64 o 128) = true) : DowO (bits .or .i64 o 128) := dowO_of _ h (by have := put_dow o; simpa using this)
end Go.Proofs.YtkhggefbkhdimaaGreatDoor
