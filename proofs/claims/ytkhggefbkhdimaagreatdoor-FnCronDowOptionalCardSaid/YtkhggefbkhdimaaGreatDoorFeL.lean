/- laws.cronHead, spec.cronBegins, CronZoneHead, laws.cronPlainText. -/
import Derived.Test.YtkhggefbkhdimaaGreatDoorFeA
namespace Go.Proofs.YtkhggefbkhdimaaGreatDoor
open Go.RowKit
set_option linter.unusedVariables false
set_option linter.unusedSimpArgs false

theorem head_any (s p : ByteArray) (hs : s.size ≤ 2147483654) (hp : p.size ≤ 100) (w : World) : Calls Tryz.prog 40 #[.string s, .string p] w fun e w' => e = .returned (.bool (Lib.hasPrefix s.data.toList p.data.toList)) ∧ w = w' := by
  rw [← Lib.hasPrefix_raw]
  by_cases hle : p.size ≤ s.size
  · have h1 : decide ((p.size : Int) ≤ (s.size : Int)) = true := decide_eq_true (by omega)
    rw [decide_eq_true hle, Bool.true_and]
    cases hE : ((s.extract 0 p.size).toList == p.toList)
    all_goals
      go_enter Tryz.func40, Tryz.ntmps40
      go_wp2_with fail
      go_ret
      exact ⟨rfl, rfl⟩
  · have h1 : decide ((p.size : Int) ≤ (s.size : Int)) = false := decide_eq_false (by omega)
    rw [decide_eq_false hle, Bool.false_and]
    go_enter Tryz.func40, Tryz.ntmps40
    go_wp2_with fail
    go_ret
    exact ⟨rfl, rfl⟩

theorem begins_any (s p : ByteArray) (hs : s.size ≤ 2147483654) (hp : p.size ≤ 100) (w : World) : Calls Tryz.prog 58 #[.string s, .string p] w fun e w' => e = .returned (.bool (Lib.hasPrefix s.data.toList p.data.toList)) ∧ w = w' := by
  rw [← Lib.hasPrefix_raw]
  by_cases hle : p.size ≤ s.size
  · have h1 : decide ((p.size : Int) ≤ (s.size : Int)) = true := decide_eq_true (by omega)
    rw [decide_eq_true hle, Bool.true_and]
    cases hE : ((s.extract 0 p.size).toList == p.toList)
    all_goals
      go_enter Tryz.func58, Tryz.ntmps58
      go_wp2_with fail
      go_ret
      exact ⟨rfl, rfl⟩
  · have h1 : decide ((p.size : Int) ≤ (s.size : Int)) = false := decide_eq_false (by omega)
    rw [decide_eq_false hle, Bool.false_and]
    go_enter Tryz.func58, Tryz.ntmps58
    go_wp2_with fail
    go_ret
    exact ⟨rfl, rfl⟩

def zoneK (a b : Bool) : Int := if a then 3 else if b then 8 else 0
set_option maxRecDepth 100000 in
theorem zone_any (s : ByteArray) (hs : s.size ≤ 2147483654) (w : World) : Calls Tryz.prog 41 #[.string s] w fun e w' => e = .returned (.int .i64 (zoneK (Lib.hasPrefix s.data.toList [84, 90, 61]) (Lib.hasPrefix s.data.toList [67, 82, 79, 78, 95, 84, 90, 61]))) ∧ w = w' := by
  have HA := Lib.hid (fun w => begins_any s ⟨#[84, 90, 61]⟩ hs (by decide) w)
  have HB := Lib.hid (fun w => begins_any s ⟨#[67, 82, 79, 78, 95, 84, 90, 61]⟩ hs (by decide) w)
  rw [show (⟨#[84, 90, 61]⟩ : ByteArray).data.toList = [84, 90, 61] from rfl] at HA
  rw [show (⟨#[67, 82, 79, 78, 95, 84, 90, 61]⟩ : ByteArray).data.toList = [67, 82, 79, 78, 95, 84, 90, 61] from rfl] at HB
  generalize Lib.hasPrefix s.data.toList [84, 90, 61] = a at *
  generalize Lib.hasPrefix s.data.toList [67, 82, 79, 78, 95, 84, 90, 61] = b at *
  have i0 : ∀ w, (Instr.index 114 (.agg #[.string ⟨#[84, 90, 61]⟩, .string ⟨#[67, 82, 79, 78, 95, 84, 90, 61]⟩]) (.int .i64 0)).run Tryz.prog w = .ok (.string ⟨#[84, 90, 61]⟩) w := fun _ => by kernel_rfl
  have i1 : ∀ w, (Instr.index 114 (.agg #[.string ⟨#[84, 90, 61]⟩, .string ⟨#[67, 82, 79, 78, 95, 84, 90, 61]⟩]) (.int .i64 1)).run Tryz.prog w = .ok (.string ⟨#[67, 82, 79, 78, 95, 84, 90, 61]⟩) w := fun _ => by kernel_rfl
  go_enter Tryz.func41, Tryz.ntmps41
  go_wp2_with fail
  go_loop [6] (fun i => i = .int .i64 0 ∨ (i = .int .i64 1 ∧ a = false) ∨ (i = .int .i64 2 ∧ a = false ∧ b = false)) (fun i => 2 - (intOf i).toNat)
  case atStart => exact .inl rfl
  case round =>
    rcases hrel with rfl | ⟨rfl, rfl⟩ | ⟨rfl, rfl, rfl⟩
    · cases a
      · go_wp2_with (first | (go_at_call 58; refine (HA.out _).mono ?_; rintro e w' ⟨rfl, rfl⟩))
        go_round
        case rel => exact .inr (.inl (by simp))
        case measure => simp [intOf]
      · go_wp2_with (first | (go_at_call 58; refine (HA.out _).mono ?_; rintro e w' ⟨rfl, rfl⟩))
        go_ret
        exact ⟨rfl, rfl⟩
    · cases b
      · go_wp2_with (first | (go_at_call 58; refine (HB.out _).mono ?_; rintro e w' ⟨rfl, rfl⟩))
        go_round
        case rel => exact .inr (.inr (by simp))
        case measure => simp [intOf]
      · go_wp2_with (first | (go_at_call 58; refine (HB.out _).mono ?_; rintro e w' ⟨rfl, rfl⟩))
        go_ret
        exact ⟨rfl, rfl⟩
    · go_wp2_with fail
      go_ret
      exact ⟨rfl, rfl⟩

structure PlainT (s : ByteArray) : Prop where
  ascii : plainB s.data.toList = true
  size : s.size ≤ 65536
  at_ : Lib.hasPrefix s.data.toList [64] = false
  tz : Lib.hasPrefix s.data.toList [84, 90, 61] = false
  cron : Lib.hasPrefix s.data.toList [67, 82, 79, 78, 95, 84, 90, 61] = false
def PlR (s : ByteArray) (w : World) (e : Ending) (w' : World) : Prop := ∃ b, e = .returned (.bool b) ∧ (b = true → PlainT s) ∧ w = w'
theorem plainText_any (s : ByteArray) (hs : s.size ≤ 2147483654) (w : World) : Calls Tryz.prog 13 #[.string s] w (PlR s w) := by
  have HH := Lib.hid (fun w => head_any s ⟨#[64]⟩ hs (by decide) w)
  rw [show (⟨#[64]⟩ : ByteArray).data.toList = [64] from rfl] at HH
  have HZ := Lib.hid (fun w => zone_any s hs w)
  have HF : Hid (plainB s.data.toList = true → s.size ≤ 65536 → Lib.hasPrefix s.data.toList [64] = false → zoneK (Lib.hasPrefix s.data.toList [84, 90, 61]) (Lib.hasPrefix s.data.toList [67, 82, 79, 78, 95, 84, 90, 61]) = 0 → PlainT s) := Lib.hid (by
    intro h1 h2 h3 h4
    cases h5 : Lib.hasPrefix s.data.toList [84, 90, 61] <;> cases h6 : Lib.hasPrefix s.data.toList [67, 82, 79, 78, 95, 84, 90, 61] <;> rw [h5, h6] at h4
    · exact ⟨h1, h2, h3, h5, h6⟩
    all_goals exact absurd h4 (by decide))
  generalize Lib.hasPrefix s.data.toList [64] = h at *
  generalize zoneK (Lib.hasPrefix s.data.toList [84, 90, 61]) (Lib.hasPrefix s.data.toList [67, 82, 79, 78, 95, 84, 90, 61]) = z at *
  go_enter Tryz.func13, Tryz.ntmps13
  go_wp2_with fail
  go_loop [6] (fun i => ∃ k : Nat, k ≤ s.size ∧ i = .int .i64 k ∧ ∀ j (hj : j < k) (hj2 : j < s.size), s[j].toNat < 128) (fun i => s.size - (intOf i).toNat)
  case atStart => exact ⟨0, by omega, rfl, fun j hj => by omega⟩
  case round =>
    obtain ⟨k, hk, rfl, hall⟩ := hrel
    by_cases hlt : k < s.size
    · obtain ⟨x, hx⟩ : ∃ x : Int, x = (s[k].toNat : Int) := ⟨_, rfl⟩
      have HI := idxS s k hlt x hx
      cases hc : decide ((128 : Int) ≤ x) with
      | true =>
        clear hx
        go_wp2_with fail
        go_ret
        exact ⟨false, rfl, (fun h => by cases h), rfl⟩
      | false =>
        have hx1 : s[k].toNat < 128 := by have := of_decide_eq_false hc; omega
        clear hx
        go_wp2_with fail
        go_round
        case rel => exact ⟨k + 1, by omega, by go_num, fun j hj hj2 => by
          by_cases e : j = k
          · subst e; exact hx1
          · exact hall j (by omega) hj2⟩
        case measure => simp [intOf]; omega
    · have hP : plainB s.data.toList = true := by
        unfold plainB
        rw [List.all_eq_true]
        intro c hc
        obtain ⟨j, hj, rfl⟩ := List.getElem_of_mem hc
        have hj2 : j < s.size := by rw [← str_len]; exact hj
        have := hall j (by omega) hj2
        rw [str_get] at this
        simpa using this
      have HF2 := Lib.hid (HF.out hP)
      clear hP hall
      cases q1 : decide ((s.size : Int) ≤ 65536) <;> cases h <;> cases q2 : (z == 0)
      all_goals
        go_wp2_with (first | (go_at_call 40; refine (HH.out _).mono ?_; rintro e w' ⟨rfl, rfl⟩) | (go_at_call 41; refine (HZ.out _).mono ?_; rintro e w' ⟨rfl, rfl⟩))
        go_ret
        first
          | exact ⟨false, rfl, (fun h => by cases h), rfl⟩
          | exact ⟨true, rfl, (fun _ => HF2.out (by have := of_decide_eq_true q1; omega) (by first | trivial | rfl) (by simpa using q2)), rfl⟩
end Go.Proofs.YtkhggefbkhdimaaGreatDoor
