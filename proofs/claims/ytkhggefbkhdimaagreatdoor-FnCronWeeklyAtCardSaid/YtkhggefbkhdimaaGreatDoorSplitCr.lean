/- semver.zzSplit at a separator of one byte. -/
import Derived.Test.YtkhggefbkhdimaaGreatDoorGPa
import Derived.Test.YtkhggefbkhdimaaGreatDoorIndexCr
import Derived.OwnWalk
import Derived.Deep.OwnRows
import Derived.Laws.OwnMore
import Derived.WalkSmall
import Derived.Maps.AppendAt
namespace Go.Proofs.YtkhggefbkhdimaaGreatDoor
open Go.RowKit

theorem Tryz.infoStr : (Tryz.prog.info? 9).map (fun i => (i.zero, i.size, i.bytes)) = some (some (.string ByteArray.empty), 1, 16) := by kernel_rfl

def strLen : Value → Nat
  | .string s => s.size
  | _ => 0

def strsV (l : List ByteArray) : List Value := l.map Value.string

/-- The value v is a slice of the call's own that reads as the texts l; nothing below B has turned. -/
def StrsPost (l : List ByteArray) (w : World) (e : Ending) (w' : World) : Prop :=
  ∃ v, e = .returned v ∧ w'.ownsRow w.heap.size 9 1 v l.length (strsV l) ∧ Below w.heap.size w w'

set_option maxRecDepth 100000 in
set_option maxHeartbeats 1000000 in
theorem splitSv_any (s : ByteArray) (c : UInt8) (hs : s.size ≤ 2147483655) (w : World) :
    Calls Tryz.prog 126 #[.string s, .string ⟨#[c]⟩] w (StrsPost (cutB c.toNat s) w) := by
  obtain ⟨i0, hi, hz0, hz1, hz2⟩ := info_parts Tryz.infoStr
  go_enter Tryz.func126, Tryz.ntmps126
  go_wp2_with fail
  go_loopw [0, 5] (fun x v wr => ∃ (cur : ByteArray) (P : List ByteArray), x = .string cur ∧ P.length + cur.size ≤ s.size ∧ wr.ownsRow w.heap.size 9 1 v P.length (strsV P) ∧ Hid (P ++ cutB c.toNat cur = cutB c.toNat s) ∧ Below w.heap.size w wr)
    (fun x _ _ => strLen x)
  case atStart => exact ⟨s, [], rfl, by simp, ⟨by simp [strsV], .inl ⟨rfl, rfl⟩⟩, by simp [Hid], Below.refl _ _⟩
  case round =>
    obtain ⟨cur, P, rfl, hsz, hown, hP, hb⟩ := hrel
    go_wp2_with fail
    refine (indexSv_any cur c (by unfold maxLen; omega) _).mono ?_
    rintro e w' ⟨rfl, rfl⟩
    by_cases hlt : fstInt cur.data.toList (c.toNat : Int) < 0
    · have HC := Lib.hid (cutB_none _ cur hlt)
      generalize fstInt cur.data.toList (c.toNat : Int) = r at hlt
      go_wp2_with (at_builtin; refine stop_here ?_)
      unfold Stop
      refine wpList_append_own _ rfl _ _ 39 rfl w.heap.size 9 i0 (.string ByteArray.empty) 1 16 Tryz.underlying39 hi hz0 hz1 hz2 rfl (by decide) _ _ _ rfl (hown.alloc _) ⟨wr.heap.size, 0, none⟩ 1 1 [_] rfl rfl (cell_one_new _ _ _) ?_ ?_ ?_ ?_ ?_
      · intro u hu; rw [List.mem_singleton] at hu; subst hu; rfl
      · unfold maxLen; omega
      · omega
      · have := hb.size; simp; omega
      intro v' w2 hown2 hgrow2 _
      have b2 : Below w.heap.size w w2 := Below.grown (hb.alloc hb.size _) hgrow2 (by have := hb.size; simp; omega) (fun k hk => (hown.lt k hk).1)
      have HO := Lib.hid hown2
      clear hgrow2 hown2
      go_wp2_with fail
      go_ret
      refine ⟨_, rfl, ?_, b2⟩
      rw [← hP, HC.out]
      have h9 := HO.out
      rw [show P.length + 1 = (P ++ [cur]).length from by simp] at h9
      simpa [strsV] using h9
    · obtain ⟨k, hk⟩ : ∃ k : Nat, fstInt cur.data.toList (c.toNat : Int) = k := ⟨(fstInt cur.data.toList (c.toNat : Int)).toNat, by omega⟩
      obtain ⟨hc1, hkl⟩ := cutB_at _ cur k hk
      have HC := Lib.hid hc1
      rw [hk]
      clear hc1 hk hlt
      go_wp2_with (at_builtin; refine stop_here ?_)
      unfold Stop
      refine wpList_append_own _ rfl _ _ 39 rfl w.heap.size 9 i0 (.string ByteArray.empty) 1 16 Tryz.underlying39 hi hz0 hz1 hz2 rfl (by decide) _ _ _ rfl (hown.alloc _) ⟨wr.heap.size, 0, none⟩ 1 1 [_] rfl rfl (cell_one_new _ _ _) ?_ ?_ ?_ ?_ ?_
      · intro u hu; rw [List.mem_singleton] at hu; subst hu; rfl
      · unfold maxLen; omega
      · omega
      · have := hb.size; simp; omega
      intro v' w2 hown2 hgrow2 _
      have b2 : Below w.heap.size w w2 := Below.grown (hb.alloc hb.size _) hgrow2 (by have := hb.size; simp; omega) (fun k hk => (hown.lt k hk).1)
      have HO := Lib.hid hown2
      clear hgrow2 hown2
      go_wp2_with fail
      go_roundw
      case rel =>
        refine ⟨cur.extract (k + 1) cur.size, P ++ [cur.extract 0 k], rfl, ?_, ?_, ?_, b2⟩
        · simp; omega
        · have h9 := HO.out
          rw [show P.length + 1 = (P ++ [cur.extract 0 k]).length from by simp] at h9
          simpa [strsV] using h9
        · show _ = _
          rw [← hP.out, HC.out]; simp
      case measure => simp [strLen]; omega
end Go.Proofs.YtkhggefbkhdimaaGreatDoor
