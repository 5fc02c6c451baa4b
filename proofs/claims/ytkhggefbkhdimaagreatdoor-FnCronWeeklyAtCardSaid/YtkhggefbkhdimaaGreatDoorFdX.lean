/- laws.zzFits2, cronOneItem, spec.CronJoin. -/
import Derived.Test.YtkhggefbkhdimaaGreatDoorFdW
import Derived.Test.YtkhggefbkhdimaaGreatDoorGSl
import Derived.Test.YtkhggefbkhdimaaGreatDoorGPa
namespace Go.Proofs.YtkhggefbkhdimaaGreatDoor
open Go.RowKit Go.Shelf
set_option linter.unusedVariables false
set_option linter.unusedSimpArgs false

def RStr (_ : World) (us : List Value) (x : ByteArray) : Prop := us = [.string x]
theorem RStr.mono : Mono RStr := fun _ _ _ _ _ h => h
/-- A slice of texts that holds at least one, opened. -/
theorem strs_open {w : World} {v : Value} {l : List ByteArray} (h : SlOf RStr 1 w v l) (hl : l ≠ []) :
    ∃ b off cap, v = .slice (some ⟨b, off, none⟩) l.length cap ∧ ∀ i x, l[i]? = some x → w.cell? ⟨b, off + i, none⟩ = some (.string x) := by
  obtain ⟨ao, cap, rfl, hx⟩ := h
  cases l with
  | nil => exact absurd rfl hl
  | cons a r =>
    obtain ⟨b, off, us, rfl, _, _, _⟩ := hx 0 a rfl
    refine ⟨b, off, cap, rfl, fun i x hi => ?_⟩
    obtain ⟨b2, off2, us2, he, hz, hc, hr⟩ := hx i x hi
    injection he with he
    injection he with e1 e2 _
    subst e1; subst e2
    rw [hr] at hc
    have := hc 0 _ rfl
    simpa using this
theorem ints_open {w : World} {v : Value} {l : List Int} (h : SlOf RInt 1 w v l) (hl : l ≠ []) :
    ∃ b off cap, v = .slice (some ⟨b, off, none⟩) l.length cap ∧ ∀ i x, l[i]? = some x → w.cell? ⟨b, off + i, none⟩ = some (.int .i64 x) := by
  obtain ⟨ao, cap, rfl, hx⟩ := h
  cases l with
  | nil => exact absurd rfl hl
  | cons a r =>
    obtain ⟨b, off, us, rfl, _, _, _⟩ := hx 0 a rfl
    refine ⟨b, off, cap, rfl, fun i x hi => ?_⟩
    obtain ⟨b2, off2, us2, he, hz, hc, hr⟩ := hx i x hi
    injection he with he
    injection he with e1 e2 _
    subst e1; subst e2
    rw [hr] at hc
    have := hc 0 _ rfl
    simpa using this
def SomeB (w : World) (e : Ending) (w' : World) : Prop := (∃ b, e = .returned (.bool b)) ∧ w = w'
/-- Is a text one item: not empty, without a comma. -/
def oneB (s : ByteArray) : Bool := s.data.toList.all (fun c => c.toNat != 44) && !s.toList.isEmpty
theorem oneB_true (s : ByteArray) (h : oneB s = true) : s.data.toList ≠ [] ∧ ∀ x ∈ s.data.toList, x.toNat ≠ 44 := by
  unfold oneB at h
  rw [Bool.and_eq_true] at h
  refine ⟨fun e => ?_, fun x hx => ?_⟩
  · have := h.2
    rw [ByteArray.toList_eq, e] at this
    cases this
  · have := List.all_eq_true.1 h.1 x hx
    simpa using this
def datas (l : List ByteArray) : List (List UInt8) := l.map (fun s => s.data.toList)
theorem joinC_snoc : ∀ (l : List (List UInt8)) (p : List UInt8), l ≠ [] → joinC (l ++ [p]) = joinC l ++ (44 :: p)
  | [], p, h => absurd rfl h
  | [a], p, _ => by simp [joinC]
  | a :: b :: r, p, _ => by
    rw [List.cons_append, List.cons_append]
    unfold joinC
    rw [← List.cons_append, joinC_snoc (b :: r) p (by simp)]
    simp
set_option maxRecDepth 100000 in
set_option maxHeartbeats 2000000 in
theorem join_any (v : Value) (l : List ByteArray) (w : World) (hs : SlOf RStr 1 w v l) (hl : l ≠ []) (hn : l.length ≤ 128) (hz : ∀ s ∈ l, s.size ≤ 32) : Calls Tryz.prog 56 #[v, .string ⟨#[44]⟩] w fun e w' => e = .returned (.string (mkB (joinC (datas l)))) ∧ w = w' := by
  obtain ⟨b, off, cap, rfl, hc⟩ := strs_open hs hl
  have HC := Lib.hid hc
  have HZ := Lib.hid hz
  obtain ⟨n, hn9⟩ : ∃ n, n = l.length := ⟨_, rfl⟩
  rw [← hn9] at hn ⊢
  have HN := Lib.hid hn9
  have HR : Hid (joinC (datas l) = joinC (datas (l.take n))) := Lib.hid (by rw [hn9, List.take_length])
  have hn1 : 0 < n := by rw [hn9]; exact List.length_pos_iff.2 hl
  clear hc hz hs hn9
  have HL := Lib.hid hl
  clear hl
  rw [HR.out]
  go_enter Tryz.func56, Tryz.ntmps56
  go_wp2_with fail
  go_loop [5, 10] (fun a i => ∃ (j : Nat) (cur : ByteArray), j ≤ n ∧ i = .int .i64 j ∧ a = .string cur ∧ cur.size ≤ 33 * j ∧ Hid (cur.data.toList = joinC (datas (l.take j)))) (fun _ i => n - (intOf i).toNat)
  case atStart => exact ⟨0, ByteArray.empty, by omega, rfl, rfl, by decide, Lib.hid rfl⟩
  case round =>
    obtain ⟨j, cur, hj, rfl, rfl, hcz, hcur⟩ := hrel
    by_cases hlt : j < n
    · have hlp : j < l.length := by rw [← HN.out]; exact hlt
      obtain ⟨x, hx⟩ : ∃ x, l[j]? = some x := ⟨_, List.getElem?_eq_getElem hlp⟩
      have hy : w.cell? ⟨b, off + j, none⟩ = some (.string x) := HC.out j x hx
      have hxz : x.size ≤ 32 := HZ.out x (List.mem_of_getElem? hx)
      have HT : Hid (datas (l.take (j + 1)) = datas (l.take j) ++ [x.data.toList]) := Lib.hid (by
        rw [take_snoc l j x hx]
        unfold datas
        rw [List.map_append]
        rfl)
      by_cases h0 : j = 0
      · subst h0
        have hy0 : w.cell? ⟨b, off, none⟩ = some (.string x) := by simpa using hy
        clear hy
        have HV : Hid ((cur ++ x).data.toList = joinC (datas (l.take (0 + 1)))) := Lib.hid (by
          rw [HT.out, data_app, hcur.out]
          simp [datas, joinC])
        have hsz : (cur ++ x).size ≤ 33 * 1 := by rw [ByteArray.size_append]; omega
        clear hx hlp
        go_wp2_with fail
        go_round
        case rel => exact ⟨0 + 1, cur ++ x, by omega, by go_num, rfl, hsz, HV⟩
        case measure => simp [intOf]; omega
      · have HV : Hid (((cur ++ ⟨#[44]⟩) ++ x).data.toList = joinC (datas (l.take (j + 1)))) := Lib.hid (by
          rw [HT.out, data_app, data_app, hcur.out, joinC_snoc]
          · simp
          · intro h
            have := congrArg List.length h
            unfold datas at this
            rw [List.length_map, List.length_take] at this
            simp only [List.length_nil] at this
            omega)
        have hsz : ((cur ++ ⟨#[44]⟩) ++ x).size ≤ 33 * (j + 1) := by rw [ByteArray.size_append, ByteArray.size_append]; have : (⟨#[44]⟩ : ByteArray).size = 1 := rfl; omega
        have q1 : decide ((0 : Int) < (j : Int)) = true := decide_eq_true (by omega)
        clear hx hlp
        go_wp2_with fail
        go_round
        case rel => exact ⟨j + 1, (cur ++ ⟨#[44]⟩) ++ x, by omega, by go_num, rfl, hsz, HV⟩
        case measure => simp [intOf]; omega
    · have e : j = n := by omega
      have HV : Hid (cur = mkB (joinC (datas (l.take n)))) := Lib.hid (bytes_ext (by rw [hcur.out, mkB_data, e]))
      clear e
      go_wp2_with fail
      go_ret
      exact ⟨ret_str HV.out, rfl⟩
end Go.Proofs.YtkhggefbkhdimaaGreatDoor
