/- semver.zzSplitN at a separator of one byte. -/
import Derived.Test.YtbipmpojmfbekaaDoorSplitSv
namespace Go.Proofs.YtbipmpojmfbekaaDoor
open Go.RowKit
set_option linter.unusedVariables false
set_option linter.unusedSimpArgs false

/-- The pieces of a text, parted m times at most. -/
def cutN (c : Int) : Nat → ByteArray → List ByteArray
  | 0, s => [s]
  | m + 1, s => if fstInt s.data.toList c < 0 then [s] else s.extract 0 (fstInt s.data.toList c).toNat :: cutN c m (s.extract ((fstInt s.data.toList c).toNat + 1) s.size)
theorem cutN_none (c : Int) (m : Nat) (s : ByteArray) (h : fstInt s.data.toList c < 0) : cutN c m s = [s] := by
  cases m with
  | zero => rfl
  | succ m => unfold cutN; rw [if_pos h]
theorem cutN_at (c : Int) (m : Nat) (s : ByteArray) (k : Nat) (h : fstInt s.data.toList c = k) : cutN c (m + 1) s = s.extract 0 k :: cutN c m (s.extract (k + 1) s.size) := by
  rw [cutN, if_neg (by omega), h]; simp

theorem own_shape {w : World} {base : Nat} {e : TypeId} {v : Value} {l : List ByteArray} (h : w.ownsRow base e 1 v l.length (strsV l)) : ∃ a cp, v = .slice a l.length cp := by
  obtain ⟨_, h⟩ := h
  rcases h with ⟨h0, h1⟩ | ⟨g, cap, cur, rfl, _, _, hc, hm, _, _⟩
  · refine ⟨none, 0, ?_⟩
    rw [h0, h1]
  · exact ⟨_, _, rfl⟩
def lenV : Value → Nat
  | .slice _ n _ => n
  | _ => 0

set_option maxRecDepth 100000 in
set_option maxHeartbeats 2000000 in
theorem splitN_any (s : ByteArray) (c : UInt8) (hs : s.size ≤ 2147483655) (m : Nat) (hm : m ≤ 1000) (n : Int) (em : n - 1 = (m : Int)) (w : World) :
    Calls Tryd.prog 21 #[.string s, .string ⟨#[c]⟩, .int .i64 n] w (StrsPost (cutN c.toNat m s) w) := by
  obtain ⟨i0, hi, hz0, hz1, hz2⟩ := info_parts Tryd.infoStr
  go_enter Tryd.func21, Tryd.ntmps21
  go_wp2_with fail
  go_loopw [0, 7] (fun x v wr => ∃ (cur : ByteArray) (P : List ByteArray) (a : Option Addr) (cp : Nat), x = .string cur ∧ v = .slice a P.length cp ∧ P.length ≤ m ∧ P.length + cur.size ≤ s.size ∧ wr.ownsRow w.heap.size 9 1 v P.length (strsV P) ∧ Hid (P ++ cutN c.toNat (m - P.length) cur = cutN c.toNat m s) ∧ Below w.heap.size w wr)
    (fun _ v _ => m - lenV v)
  case atStart => exact ⟨s, [], none, 0, rfl, rfl, by simp, by simp, ⟨by simp [strsV], .inl ⟨rfl, rfl⟩⟩, by simp [Hid], Below.refl _ _⟩
  case round =>
    obtain ⟨cur, P, a, cp, rfl, rfl, hlm, hsz, hown, hP, hb⟩ := hrel
    by_cases hl : P.length < m
    · have l1 : ((P.length : Int) < (m : Int)) = True := eq_true (by omega)
      go_wp2_with fail
      refine (indexSv_any cur c (by unfold maxLen; omega) _).mono ?_
      rintro e w' ⟨rfl, rfl⟩
      by_cases hlt : fstInt cur.data.toList (c.toNat : Int) < 0
      · have HC := Lib.hid (cutN_none (c.toNat : Int) (m - P.length) cur hlt)
        generalize fstInt cur.data.toList (c.toNat : Int) = r at hlt
        go_wp2_with (at_builtin; refine stop_here ?_)
        unfold Stop
        refine wpList_append_own _ rfl _ _ 40 rfl w.heap.size 9 i0 (.string ByteArray.empty) 1 16 Tryd.underlying40 hi hz0 hz1 hz2 rfl (by decide) _ _ _ rfl (hown.alloc _) ⟨wr.heap.size, 0, none⟩ 1 1 [_] rfl rfl (cell_one_new _ _ _) ?_ ?_ ?_ ?_ ?_
        · intro u hu; rw [List.mem_singleton] at hu; subst hu; rfl
        · unfold maxLen; omega
        · omega
        · have := hb.size; simp; omega
        intro v' w2 hown2 hgrow2 _
        have b2 : Below w.heap.size w w2 := Below.grown (hb.alloc hb.size _) hgrow2 (by have := hb.size; simp; omega) (fun k hk => (hown.lt k hk).1)
        have HO := Lib.hid hown2
        clear hgrow2 hown2
        go_wp2_with fail
        go_ret
        refine ⟨_, rfl, ?_, b2⟩
        rw [← hP, HC.out]
        have h9 := HO.out
        rw [show P.length + 1 = (P ++ [cur]).length from by simp] at h9
        simpa [strsV] using h9
      · obtain ⟨k, hk⟩ : ∃ k : Nat, fstInt cur.data.toList (c.toNat : Int) = k := ⟨(fstInt cur.data.toList (c.toNat : Int)).toNat, by omega⟩
        have hkl := (cutB_at _ cur k hk).2
        have hc1 := cutN_at (c.toNat : Int) (m - (P.length + 1)) cur k hk
        rw [show m - (P.length + 1) + 1 = m - P.length by omega] at hc1
        have HC := Lib.hid hc1
        rw [hk]
        clear hc1 hk hlt
        go_wp2_with (at_builtin; refine stop_here ?_)
        unfold Stop
        refine wpList_append_own _ rfl _ _ 40 rfl w.heap.size 9 i0 (.string ByteArray.empty) 1 16 Tryd.underlying40 hi hz0 hz1 hz2 rfl (by decide) _ _ _ rfl (hown.alloc _) ⟨wr.heap.size, 0, none⟩ 1 1 [_] rfl rfl (cell_one_new _ _ _) ?_ ?_ ?_ ?_ ?_
        · intro u hu; rw [List.mem_singleton] at hu; subst hu; rfl
        · unfold maxLen; omega
        · omega
        · have := hb.size; simp; omega
        intro v' w2 hown2 hgrow2 _
        have b2 : Below w.heap.size w w2 := Below.grown (hb.alloc hb.size _) hgrow2 (by have := hb.size; simp; omega) (fun k hk => (hown.lt k hk).1)
        have HO := Lib.hid hown2
        clear hgrow2 hown2
        obtain ⟨a2, cp2, hv2⟩ : ∃ a cp, v' = .slice a (P.length + 1) cp := by
          have h9 := HO.out
          rw [show P.length + 1 = (P ++ [cur.extract 0 k]).length from by simp] at h9 ⊢
          exact own_shape (l := P ++ [cur.extract 0 k]) (by simpa [strsV] using h9)
        subst hv2
        go_wp2_with fail
        go_roundw
        case rel =>
          refine ⟨cur.extract (k + 1) cur.size, P ++ [cur.extract 0 k], a2, cp2, rfl, by simp, by simp; omega, ?_, ?_, ?_, b2⟩
          · simp; omega
          · have h9 := HO.out
            rw [show P.length + 1 = (P ++ [cur.extract 0 k]).length from by simp] at h9
            simpa [strsV] using h9
          · show _ = _
            rw [← hP.out, HC.out]; simp
        case measure => simp [lenV]; omega
    · have l1 : ((P.length : Int) < (m : Int)) = False := eq_false (by omega)
      have HC : Hid (cutN c.toNat (m - P.length) cur = [cur]) := by show _ = _; rw [show m - P.length = 0 by omega]; rfl
      go_wp2_with (at_builtin; refine stop_here ?_)
      unfold Stop
      refine wpList_append_own _ rfl _ _ 40 rfl w.heap.size 9 i0 (.string ByteArray.empty) 1 16 Tryd.underlying40 hi hz0 hz1 hz2 rfl (by decide) _ _ _ rfl (hown.alloc _) ⟨wr.heap.size, 0, none⟩ 1 1 [_] rfl rfl (cell_one_new _ _ _) ?_ ?_ ?_ ?_ ?_
      · intro u hu; rw [List.mem_singleton] at hu; subst hu; rfl
      · unfold maxLen; omega
      · omega
      · have := hb.size; simp; omega
      intro v' w2 hown2 hgrow2 _
      have b2 : Below w.heap.size w w2 := Below.grown (hb.alloc hb.size _) hgrow2 (by have := hb.size; simp; omega) (fun k hk => (hown.lt k hk).1)
      have HO := Lib.hid hown2
      clear hgrow2 hown2
      go_wp2_with fail
      go_ret
      refine ⟨_, rfl, ?_, b2⟩
      rw [← hP, HC.out]
      have h9 := HO.out
      rw [show P.length + 1 = (P ++ [cur]).length from by simp] at h9
      simpa [strsV] using h9
end Go.Proofs.YtbipmpojmfbekaaDoor
