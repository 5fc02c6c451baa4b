/- cron.parseIntOrName of any text. -/
import Derived.Test.YtkhggefbkhdimaaGreatDoorFdO
namespace Go.Proofs.YtkhggefbkhdimaaGreatDoor
open Go.RowKit Go.Shelf Go.Maps Go.WideMaps
set_option linter.unusedVariables false
set_option linter.unusedSimpArgs false

theorem lowF_len (s : ByteArray) : ∀ f pos : Nat, (lowF s f pos).length ≤ 4 * f
  | 0, pos => Nat.le_refl 0
  | f + 1, pos => by
    unfold lowF
    split
    · rw [List.length_append]
      have h1 := lowR_len (Utf8.decode s pos).1
      have h2 := lowF_len s f (pos + (Utf8.decode s pos).2)
      omega
    · simp
theorem lowG_len (s : ByteArray) : (lowG s).length ≤ 4 * s.size := lowF_len s _ _
/-- What cron.parseIntOrName reads a text of a field as. -/
def valU (k : Nat) (t : ByteArray) : Option Nat := valI k (lowG t) t.data.toList
theorem valU_ok (k : Nat) (t : ByteArray) : ValOk (valS k t.data.toList) (valU k t) := val_ok k _ _ (fun h => low_ascii t h)
theorem neqNone (w : World) : (binOp .neq 125 (.map none) (.map none)).run Tryz.prog w = .ok (.bool false) w := by kernel_rfl
theorem neqSome (b : Nat) (w : World) : (binOp .neq 125 (.map (some b)) (.map none)).run Tryz.prog w = .ok (.bool true) w := by kernel_rfl
theorem zeroU (w : World) : (zeroValue 124).run Tryz.prog w = .ok (.int .u64 0) w := by kernel_rfl
set_option maxRecDepth 100000 in
set_option maxHeartbeats 2000000 in
theorem intOrName_any (k : Nat) (t : ByteArray) (ht : t.size ≤ 2147483654) (M : Option Nat) (w : World) (hM : Hid (NamesAt k M w)) (he : Hid (Errs w)) :
    Calls Tryz.prog 127 #[.string t, .map M] w (NumR (valU k t) w) := by
  by_cases hk : k = 4 ∨ k = 5
  · have h9 := hM.out
    unfold NamesAt at h9
    rw [if_pos hk] at h9
    obtain ⟨b, n, rfl, ho⟩ := h9
    have HO := Lib.hid ho
    clear ho
    have hnn := neqSome b
    have hsz : (lowG t).length ≤ 8589934616 := by have := lowG_len t; omega
    obtain ⟨L, hL⟩ : ∃ L : ByteArray, L = ⟨(lowG t).toArray⟩ := ⟨_, rfl⟩
    have HLd : Hid (L.data.toList = lowG t) := Lib.hid (by rw [hL])
    have HLs : Hid (L.size ≤ maxLen) := Lib.hid (by rw [← str_len, HLd.out]; unfold maxLen; omega)
    have HL := Lib.hid hL
    clear hL hsz
    have hkey : keyOf Tryz.prog 9 (.string L) = some (.string L.data.toList) := keyOf_string_mk Tryz.underlying9 HLs.out
    have HK := Lib.hid hkey
    clear hkey
    cases hlk : lookIx k (lowG t) with
    | some i =>
      have HV : Hid (valU k t = some (i + loK k)) := Lib.hid (by unfold valU valI; rw [hlk])
      have HN : Hid ((nameMap k).atKey (.string L.data.toList) (.lit (.int .u64 0)) = .lit (.int .u64 ((i + loK k : Nat) : Int)) ∧ has (nameMap k) (.string L.data.toList) = true) := Lib.hid (by rw [HLd.out]; exact nameMap_some k hk _ i hlk _)
      rw [HV.out]
      clear hlk
      go_enter Tryz.func127, Tryz.ntmps127
      go_wp2_with fail
      refine (zzLower_any t ht _).mono ?_
      rintro e w1 ⟨rfl, hb1⟩
      rw [← HL.out]
      have HB1 := Lib.hid hb1
      have HO1 : Hid (w1.ownsMap (H := Unit) Tryz.prog 9 (plainElem Tryz.prog 124) b n (nameMap k)) := Lib.hid (HO.out.kept (row := none) ⟨hb1.os, hb1.tape, hb1.output, hb1.size, fun i hi _ => hb1.block i hi⟩ (by simp))
      clear hb1
      go_wp2_with (first | (at_lookup; refine wpList_lookup_own_ok_int _ rfl _ _ 125 rfl 9 124 .u64 lawStr Tryz.underlying125 Tryz.underlying124 (zeroU _) b n (nameMap k) rfl HO1.out _ _ rfl HK.out (stop_here ?_)))
      unfold Stop
      intro c hat hwc
      rw [HN.out.1] at hat
      rw [HN.out.2]
      have hc : c = ((i + loK k : Nat) : Int) := by injection hat with h; injection h with _ h; exact h.symm
      clear hat hwc
      subst hc
      go_wp2_with fail
      go_ret2
      exact ⟨rfl, HB1.out⟩
    | none =>
      have HV : Hid (valU k t = mustI t.data.toList) := Lib.hid (by unfold valU valI; rw [hlk])
      have HN : Hid (has (nameMap k) (.string L.data.toList) = false) := Lib.hid (by rw [HLd.out]; exact (nameMap_none k _ hlk .nil).2)
      rw [HV.out]
      clear hlk
      go_enter Tryz.func127, Tryz.ntmps127
      go_wp2_with fail
      refine (zzLower_any t ht _).mono ?_
      rintro e w1 ⟨rfl, hb1⟩
      rw [← HL.out]
      have HB1 := Lib.hid hb1
      have HE1 : Hid (Errs w1) := Lib.hid (he.out.below hb1)
      have HO1 : Hid (w1.ownsMap (H := Unit) Tryz.prog 9 (plainElem Tryz.prog 124) b n (nameMap k)) := Lib.hid (HO.out.kept (row := none) ⟨hb1.os, hb1.tape, hb1.output, hb1.size, fun i hi _ => hb1.block i hi⟩ (by simp))
      clear hb1
      go_wp2_with (first | (at_lookup; refine wpList_lookup_own_ok_int _ rfl _ _ 125 rfl 9 124 .u64 lawStr Tryz.underlying125 Tryz.underlying124 (zeroU _) b n (nameMap k) rfl HO1.out _ _ rfl HK.out (stop_here ?_)))
      unfold Stop
      intro c hat hwc
      rw [HN.out]
      clear hat hwc
      go_wp2_with fail
      refine (mustInt_any t ht _ HE1).mono ?_
      intro e w2 h2
      cases hm : mustI t.data.toList with
      | some v =>
        rw [hm] at h2
        obtain ⟨rfl, hb2⟩ := h2
        have HM := Lib.hid hm
        clear hm
        go_wp2_with fail
        go_ret2
        rw [HM.out]
        exact ⟨rfl, HB1.out.trans (hb2.mono HB1.out.size)⟩
      | none =>
        rw [hm] at h2
        obtain ⟨⟨t9, p9, rfl⟩, hb2⟩ := h2
        have HM := Lib.hid hm
        clear hm
        go_wp2_with fail
        go_ret2
        rw [HM.out]
        exact ⟨⟨t9, p9, rfl⟩, HB1.out.trans (hb2.mono HB1.out.size)⟩
  · have h9 := hM.out
    unfold NamesAt at h9
    rw [if_neg hk] at h9
    subst h9
    have hnn := neqNone
    have HV : Hid (valU k t = mustI t.data.toList) := Lib.hid (by unfold valU valI; rw [look_none k hk])
    rw [HV.out]
    clear hk
    go_enter Tryz.func127, Tryz.ntmps127
    go_wp2_with fail
    refine (mustInt_any t ht _ he).mono ?_
    intro e w2 h2
    cases hm : mustI t.data.toList with
    | some v =>
      rw [hm] at h2
      obtain ⟨rfl, hb2⟩ := h2
      have HM := Lib.hid hm
      clear hm
      go_wp2_with fail
      go_ret2
      rw [HM.out]
      exact ⟨rfl, hb2⟩
    | none =>
      rw [hm] at h2
      obtain ⟨⟨t9, p9, rfl⟩, hb2⟩ := h2
      have HM := Lib.hid hm
      clear hm
      go_wp2_with fail
      go_ret2
      rw [HM.out]
      exact ⟨⟨t9, p9, rfl⟩, hb2⟩
end Go.Proofs.YtkhggefbkhdimaaGreatDoor
