/- spec.cronSame. -/
import Derived.Test.YtkhggefbkhdimaaDoorFdD
namespace Go.Proofs.YtkhggefbkhdimaaDoor
open Go.RowKit
set_option linter.unusedVariables false
set_option linter.unusedSimpArgs false

def upI (x : Int) : Int := if 97 ≤ x ∧ x ≤ 122 then x - 32 else x
theorem upI_up (c : UInt8) : upI (c.toNat : Int) = (upN c.toNat : Nat) := by unfold upI upN; split <;> split <;> omega
theorem upper_int (x : Int) (h0 : 0 ≤ x) (h1 : x < 256) (W : World) :
    Calls Tryd.prog 85 #[.int .u8 x] W fun e w' => e = .returned (.int .u8 (upI x)) ∧ w' = W := by
  obtain ⟨c, hc⟩ : ∃ c : UInt8, x = (c.toNat : Int) := ⟨UInt8.ofNat x.toNat, by rw [UInt8.toNat_ofNat', Nat.mod_eq_of_lt (by omega)]; omega⟩
  subst hc
  rw [upI_up]
  exact (upper_any c W).mono (fun _ _ h => ⟨h.1, h.2.symm⟩)
set_option maxRecDepth 100000 in
set_option maxHeartbeats 4000000 in
theorem same_any (a b : ByteArray) (hs : a.size ≤ 2147483654) (w : World) :
    Calls Tryd.prog 61 #[.string a, .string b] w fun e w' => e = .returned (.bool (sameB a b)) ∧ Below w.heap.size w w' := by
  by_cases hl : a.size = b.size
  · have q : ((a.size : Int) != (b.size : Int)) = false := by rw [hl]; simp
    have HL := Lib.hid hl
    clear hl
    go_enter Tryd.func61, Tryd.ntmps61
    go_wp2_with fail
    go_loopw [13] (fun i wr => ∃ k : Nat, k ≤ a.size ∧ i = .int .i64 k ∧ Hid (∀ j, (ha : j < a.size) → (hb : j < b.size) → j < k → upN a[j].toNat = upN b[j].toNat) ∧ Below w.heap.size w wr) (fun i _ => a.size - (intOf i).toNat)
    case atStart => exact ⟨0, by omega, rfl, fun j _ _ h => absurd h (Nat.not_lt_zero j), Below.refl _ _⟩
    case round =>
      obtain ⟨k, hk, rfl, hf, hb⟩ := hrel
      by_cases hlt : k < a.size
      · have hlb : k < b.size := by rw [← HL.out]; exact hlt
        obtain ⟨x, hx⟩ : ∃ x : Int, x = (a[k].toNat : Int) := ⟨_, rfl⟩
        have HI := idxS a k hlt x hx
        obtain ⟨y, hy⟩ : ∃ y : Int, y = (b[k].toNat : Int) := ⟨_, rfl⟩
        have HJ := idxS b k hlb y hy
        have HX := Lib.hid hx
        have HY := Lib.hid hy
        clear hx hy
        have hx0 : 0 ≤ x := by have := HX.out; omega
        have hx1 : x < 256 := by have := HX.out; have := UInt8.toNat_lt a[k]; omega
        have hy0 : 0 ≤ y := by have := HY.out; omega
        have hy1 : y < 256 := by have := HY.out; have := UInt8.toNat_lt b[k]; omega
        have HU : Hid (upI x = (upN a[k].toNat : Nat)) := Lib.hid (by rw [HX.out, upI_up])
        have HV : Hid (upI y = (upN b[k].toNat : Nat)) := Lib.hid (by rw [HY.out, upI_up])
        by_cases hc : upI x = upI y
        · have HN := Lib.hid (fun j (h1 : j < a.size) (h2 : j < b.size) (h3 : j < k + 1) => show upN a[j].toNat = upN b[j].toNat by
            rcases Nat.lt_or_ge j k with c | c
            · exact hf.out j h1 h2 c
            · obtain rfl : j = k := by omega
              have e1 := HU.out; have e2 := HV.out; omega)
          have q2 : (upI x != upI y) = false := by rw [hc]; simp
          clear hc
          go_wp2_with fail
          go_quiet ((go_at_call 85; exact Calls.quiet_of_same (upper_int _ (by omega) (by omega) _)))
          go_wp2_with fail
          go_roundw
          case rel => exact ⟨k + 1, by omega, by go_num, HN, below_drewN hb _⟩
          case measure => simp [intOf]; omega
        · have HN := Lib.hid (same_stop a b k hlt hlb (by have e1 := HU.out; have e2 := HV.out; omega))
          have q2 : (upI x != upI y) = true := by simp only [bne_iff_ne]; exact hc
          clear hc
          go_wp2_with fail
          go_quiet ((go_at_call 85; exact Calls.quiet_of_same (upper_int _ (by omega) (by omega) _)))
          go_wp2_with fail
          go_ret
          exact ⟨ret_bool HN.out.symm, below_drewN hb _⟩
      · have HN := Lib.hid (same_end a b HL.out (fun j h1 h2 => hf.out j h1 h2 (by omega)))
        go_wp2_with fail
        go_ret
        exact ⟨ret_bool HN.out.symm, hb⟩
  · have q : ((a.size : Int) != (b.size : Int)) = true := by simp only [bne_iff_ne]; omega
    have HN := Lib.hid (same_len a b hl)
    clear hl
    go_enter Tryd.func61, Tryd.ntmps61
    go_wp2_with fail
    go_ret
    exact ⟨ret_bool HN.out.symm, Below.refl _ _⟩
end Go.Proofs.YtkhggefbkhdimaaDoor
