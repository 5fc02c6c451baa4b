/- path.Match at question marks. -/
import Derived.Test.YtojcadkdkinacaaDoorMkPath
import Derived.Deep.RegionHeld3
import Derived.BigQuiet
import Derived.WalkMore
namespace Go.Proofs.YtojcadkdkinacaaDoor
open Go.RowKit
set_option linter.unusedVariables false
set_option linter.unusedSimpArgs false

/-- Do n question marks match? -/
def marksB (n : Nat) (S : ByteArray) : Bool := decide (n = S.size) && decide (n ≤ fstIx S.data.toList 47)

set_option maxRecDepth 100000 in
set_option maxHeartbeats 4000000 in
theorem match_q (T S : ByteArray) (hq : Hid (AllQ T)) (h1 : 1 ≤ T.size) (hs : T.size ≤ 200) (hS : S.size ≤ 200) (hS1 : 1 ≤ S.size) (hp : Hid (∀ k (h : k < S.size), ((S[k]).toNat : Int) < 128)) (w : World) :
    Calls Tryd.prog 12 #[.string T, .string S] w fun e w' => e = .returned (.tuple #[.bool (marksB T.size S), .nilIface]) ∧ w = w' := by
  go_enter Tryd.func12, Tryd.ntmps12
  go_wp2_with fail
  go_step3
  go_wp2_with fail
  go_step3
  go_wp2_with fail
  go_loop [0, 1] (fun p n => (p = .string T ∧ n = .string S) ∨ (p = .string ⟨#[]⟩ ∧ n = .string ⟨#[]⟩ ∧ Hid (marksB T.size S = true))) (fun p _ => strSz p)
  case atStart => exact .inl ⟨rfl, rfl⟩
  case round =>
    rcases hrel with ⟨rfl, rfl⟩ | ⟨rfl, rfl, hm⟩
    · have zT : 0 < T.size := by omega
      go_wp2_with fail
      refine (scanChunk_q T hq h1 hs _).mono ?_
      rintro e w' ⟨rfl, rfl⟩
      go_wp2_with fail
      refine (matchChunk_q T S hq hs hS hp _).mono ?_
      rintro e w' ⟨⟨hy, hn⟩, rfl⟩
      by_cases hg : T.size ≤ fstIx S.data.toList 47
      · have hy2 := hy hg
        subst hy2
        clear hy hn
        have zle : T.size ≤ S.size := by have := fstIx_le S.data.toList 47; rw [str_len] at this; omega
        have zx : (S.extract T.size S.size).size = S.size - T.size := ext_size S _ zle
        by_cases he : T.size = S.size
        · have zz : (S.extract T.size S.size).size = 0 := by omega
          have ze : S.extract T.size S.size = ⟨#[]⟩ := by
            apply bytes_ext
            have := str_len (S.extract T.size S.size)
            rw [zz] at this
            exact List.eq_nil_of_length_eq_zero this
          have hm : Hid (marksB T.size S = true) := by show _ = _; unfold marksB; rw [decide_eq_true he, decide_eq_true hg]; rfl
          rw [ze]
          clear zx zz ze hg he zle
          go_wp2_with fail
          go_round
          case rel => exact .inr ⟨rfl, rfl, hm⟩
          case measure => exact zT
        · have hm : Hid (marksB T.size S = false) := by show _ = _; unfold marksB; rw [decide_eq_false he]; rfl
          have zz : 0 < (S.extract T.size S.size).size := by omega
          clear zx hg he zle
          generalize S.extract T.size S.size = R at zz ⊢
          have lR : ((R.size : Int) == 0) = false := by rw [beq_eq_false_iff_ne]; omega
          have lR2 : ((R.size : Int) = 0) = False := eq_false (by omega)
          go_wp2_with fail
          go_loop [0] (fun p => p = .string ⟨#[]⟩) (fun _ => 0)
          case atStart => rfl
          case round =>
            subst hrel
            go_wp2_with fail
            refine bodyPost_ret (v := .tuple #[.bool false, .nilIface]) (by simp [results, Tryd.results12, go_sem]) rfl ⟨by rw [hm.out], rfl⟩
      · have hn2 := hn hg
        subst hn2
        have hm : Hid (marksB T.size S = false) := by show _ = _; unfold marksB; rw [decide_eq_false hg]; simp
        clear hy hn hg
        go_wp2_with fail
        go_loop [0] (fun p => p = .string ⟨#[]⟩) (fun _ => 0)
        case atStart => rfl
        case round =>
          subst hrel
          go_wp2_with fail
          refine bodyPost_ret (v := .tuple #[.bool false, .nilIface]) (by simp [results, Tryd.results12, go_sem]) rfl ⟨by rw [hm.out], rfl⟩
    · go_wp2_with fail
      refine bodyPost_ret (v := .tuple #[.bool true, .nilIface]) (by simp [results, Tryd.results12, go_sem]) rfl ⟨by rw [hm.out], rfl⟩

set_option maxRecDepth 100000 in
set_option maxHeartbeats 4000000 in
theorem match_none (S : ByteArray) (hS1 : 1 ≤ S.size) (w : World) :
    Calls Tryd.prog 12 #[.string ⟨#[]⟩, .string S] w fun e w' => e = .returned (.tuple #[.bool (marksB 0 S), .nilIface]) ∧ w = w' := by
  have hm : Hid (marksB 0 S = false) := by show _ = _; unfold marksB; rw [decide_eq_false (by omega)]; rfl
  have lR : ((S.size : Int) == 0) = false := by rw [beq_eq_false_iff_ne]; omega
  have lR2 : ((S.size : Int) = 0) = False := eq_false (by omega)
  go_enter Tryd.func12, Tryd.ntmps12
  go_wp2_with fail
  go_step3
  go_wp2_with fail
  go_step3
  go_wp2_with fail
  go_loop [0, 1] (fun p n => p = .string ⟨#[]⟩ ∧ n = .string S) (fun p _ => strSz p)
  case atStart => exact ⟨rfl, rfl⟩
  case round =>
    obtain ⟨rfl, rfl⟩ := hrel
    go_wp2_with fail
    refine bodyPost_ret (v := .tuple #[.bool false, .nilIface]) (by simp [results, Tryd.results12, go_sem]) rfl ⟨by rw [hm.out], rfl⟩
end Go.Proofs.YtojcadkdkinacaaDoor
