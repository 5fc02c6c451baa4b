/- laws.zzFits2, cronOneItem, spec.CronJoin. -/
import Derived.Test.YtkhggefbkhdimaaDoorFdW
import Derived.Test.YtkhggefbkhdimaaDoorTrodInt
import Derived.Test.YtkhggefbkhdimaaDoorPOrd
namespace Go.Proofs.YtkhggefbkhdimaaDoor
open Go.RowKit Go.Shelf
set_option linter.unusedVariables false
set_option linter.unusedSimpArgs false

def RStr (_ : World) (us : List Value) (x : ByteArray) : Prop := us = [.string x]
theorem RStr.mono : Mono RStr := fun _ _ _ _ _ h => h
/-- A slice of texts that holds at least one, opened. -/
theorem strs_open {w : World} {v : Value} {l : List ByteArray} (h : SlOf RStr 1 w v l) (hl : l ≠ []) :
    ∃ b off cap, v = .slice (some ⟨b, off, none⟩) l.length cap ∧ ∀ i x, l[i]? = some x → w.cell? ⟨b, off + i, none⟩ = some (.string x) := by
  obtain ⟨ao, cap, rfl, hx⟩ := h
  cases l with
  | nil => exact absurd rfl hl
  | cons a r =>
    obtain ⟨b, off, us, rfl, _, _, _⟩ := hx 0 a rfl
    refine ⟨b, off, cap, rfl, fun i x hi => ?_⟩
    obtain ⟨b2, off2, us2, he, hz, hc, hr⟩ := hx i x hi
    injection he with he
    injection he with e1 e2 _
    subst e1; subst e2
    rw [hr] at hc
    have := hc 0 _ rfl
    simpa using this
theorem ints_open {w : World} {v : Value} {l : List Int} (h : SlOf RInt 1 w v l) (hl : l ≠ []) :
    ∃ b off cap, v = .slice (some ⟨b, off, none⟩) l.length cap ∧ ∀ i x, l[i]? = some x → w.cell? ⟨b, off + i, none⟩ = some (.int .i64 x) := by
  obtain ⟨ao, cap, rfl, hx⟩ := h
  cases l with
  | nil => exact absurd rfl hl
  | cons a r =>
    obtain ⟨b, off, us, rfl, _, _, _⟩ := hx 0 a rfl
    refine ⟨b, off, cap, rfl, fun i x hi => ?_⟩
    obtain ⟨b2, off2, us2, he, hz, hc, hr⟩ := hx i x hi
    injection he with he
    injection he with e1 e2 _
    subst e1; subst e2
    rw [hr] at hc
    have := hc 0 _ rfl
    simpa using this
def SomeB (w : World) (e : Ending) (w' : World) : Prop := (∃ b, e = .returned (.bool b)) ∧ w = w'
set_option maxHeartbeats 2000000 in
theorem fits2_any (v : Value) (l : List ByteArray) (w : World) (hs : SlOf RStr 1 w v l) : Calls Tryd.prog 11 #[v] w (SomeB w) := by
  cases l with
  | nil =>
    obtain ⟨ao, cap, rfl, _⟩ := hs
    go_enter Tryd.func11, Tryd.ntmps11
    go_wp2_with fail
    go_loop [10] (fun i => i = .int .i64 0) (fun _ => 0)
    case atStart => rfl
    case round =>
      obtain rfl := hrel
      go_wp2_with fail
      go_ret
      exact ⟨⟨_, rfl⟩, rfl⟩
  | cons a0 r0 =>
    obtain ⟨b, off, cap, rfl, hc⟩ := strs_open hs (by simp)
    have HC := Lib.hid hc
    obtain ⟨n, hn9⟩ : ∃ n, n = (a0 :: r0).length := ⟨_, rfl⟩
    rw [← hn9]
    have HN := Lib.hid hn9
    clear hc hs hn9
    by_cases hbig : 2147483647 < n
    · have q1 : decide ((2147483647 : Int) < (n : Int)) = true := decide_eq_true (by omega)
      go_enter Tryd.func11, Tryd.ntmps11
      go_wp2_with fail
      go_ret
      exact ⟨⟨_, rfl⟩, rfl⟩
    · have q1 : decide ((2147483647 : Int) < (n : Int)) = false := decide_eq_false (by omega)
      go_enter Tryd.func11, Tryd.ntmps11
      go_wp2_with fail
      go_loop [10] (fun i => ∃ j : Nat, j ≤ n ∧ i = .int .i64 j) (fun i => n - (intOf i).toNat)
      case atStart => exact ⟨0, by omega, rfl⟩
      case round =>
        obtain ⟨j, hj, rfl⟩ := hrel
        by_cases hlt : j < n
        · have hlp : j < (a0 :: r0).length := by rw [← HN.out]; exact hlt
          obtain ⟨x, hx⟩ : ∃ x, (a0 :: r0)[j]? = some x := ⟨_, List.getElem?_eq_getElem hlp⟩
          have hy : w.cell? ⟨b, off + j, none⟩ = some (.string x) := HC.out j x hx
          clear hx hlp
          by_cases hxb : 2147483647 < x.size
          · have q2 : decide ((2147483647 : Int) < (x.size : Int)) = true := decide_eq_true (by omega)
            go_wp2_with fail
            go_ret
            exact ⟨⟨_, rfl⟩, rfl⟩
          · have q2 : decide ((2147483647 : Int) < (x.size : Int)) = false := decide_eq_false (by omega)
            go_wp2_with fail
            go_round
            case rel => exact ⟨j + 1, by omega, by go_num⟩
            case measure => simp [intOf]; omega
        · go_wp2_with fail
          go_ret
          exact ⟨⟨_, rfl⟩, rfl⟩
/-- Is a text one item: not empty, without a comma. -/
def oneB (s : ByteArray) : Bool := s.data.toList.all (fun c => c.toNat != 44) && !s.toList.isEmpty
theorem oneB_true (s : ByteArray) (h : oneB s = true) : s.data.toList ≠ [] ∧ ∀ x ∈ s.data.toList, x.toNat ≠ 44 := by
  unfold oneB at h
  rw [Bool.and_eq_true] at h
  refine ⟨fun e => ?_, fun x hx => ?_⟩
  · have := h.2
    rw [ByteArray.toList_eq, e] at this
    cases this
  · have := List.all_eq_true.1 h.1 x hx
    simpa using this
set_option maxHeartbeats 2000000 in
theorem oneItem_any (s : ByteArray) (hs : s.size ≤ 9223372036854775807) (w : World) : Calls Tryd.prog 12 #[.string s] w fun e w' => e = .returned (.bool (oneB s && decide (s.size ≤ 65536))) ∧ w = w' := by
  go_enter Tryd.func12, Tryd.ntmps12
  go_wp2_with fail
  go_loop [6] (fun i => ∃ k : Nat, k ≤ s.size ∧ i = .int .i64 k ∧ Hid (∀ j, (hj : j < s.size) → j < k → (fun c : UInt8 => c.toNat != 44) s[j] = true)) (fun i => s.size - (intOf i).toNat)
  case atStart => exact ⟨0, by omega, rfl, fun j _ h => absurd h (Nat.not_lt_zero j)⟩
  case round =>
    obtain ⟨k, hk, rfl, hf⟩ := hrel
    by_cases hlt : k < s.size
    · obtain ⟨x, hx⟩ : ∃ x : Int, x = (s[k].toNat : Int) := ⟨_, rfl⟩
      have HI := idxS s k hlt x hx
      by_cases hd : x = 44
      · have HN := Lib.hid (all_stop (fun c : UInt8 => c.toNat != 44) s k hlt (by simp only [bne_eq_false_iff_eq]; omega))
        have q : (x == 44) = true := by simp [hd]
        clear hx hd
        go_wp2_with fail
        go_ret
        exact ⟨ret_bool (by unfold oneB; rw [HN.out]; rfl), rfl⟩
      · have HN := Lib.hid (all_next (fun c : UInt8 => c.toNat != 44) s k hlt (by simp only [bne_iff_ne]; omega) hf.out)
        have q : (x == 44) = false := by simp [hd]
        clear hx hd
        go_wp2_with fail
        go_round
        case rel => exact ⟨k + 1, by omega, by go_num, HN⟩
        case measure => simp [intOf]; omega
    · have HN := Lib.hid (all_end (fun c : UInt8 => c.toNat != 44) s (fun j hj => hf.out j hj (by omega)))
      cases he : s.toList.isEmpty with
      | true =>
        have HR : Hid (false = (oneB s && decide (s.size ≤ 65536))) := Lib.hid (by unfold oneB; rw [he]; simp)
        go_wp2_with fail
        go_ret
        exact ⟨ret_bool HR.out, rfl⟩
      | false =>
        by_cases h6 : s.size ≤ 65536
        · have q2 : decide ((s.size : Int) ≤ 65536) = true := decide_eq_true (by omega)
          have HR : Hid (true = (oneB s && decide (s.size ≤ 65536))) := Lib.hid (by unfold oneB; rw [HN.out, he]; simp [h6])
          have H6 := Lib.hid h6
          clear h6
          go_wp2_with fail
          go_ret
          exact ⟨ret_bool HR.out, rfl⟩
        · have q2 : decide ((s.size : Int) ≤ 65536) = false := decide_eq_false (by omega)
          have HR : Hid (false = (oneB s && decide (s.size ≤ 65536))) := Lib.hid (by simp [h6])
          clear h6
          go_wp2_with fail
          go_ret
          exact ⟨ret_bool HR.out, rfl⟩
def datas (l : List ByteArray) : List (List UInt8) := l.map (fun s => s.data.toList)
theorem joinC_snoc : ∀ (l : List (List UInt8)) (p : List UInt8), l ≠ [] → joinC (l ++ [p]) = joinC l ++ (44 :: p)
  | [], p, h => absurd rfl h
  | [a], p, _ => by simp [joinC]
  | a :: b :: r, p, _ => by
    rw [List.cons_append, List.cons_append]
    unfold joinC
    rw [← List.cons_append, joinC_snoc (b :: r) p (by simp)]
    simp
set_option maxRecDepth 100000 in
set_option maxHeartbeats 2000000 in
theorem join_any (v : Value) (l : List ByteArray) (w : World) (hs : SlOf RStr 1 w v l) (hl : l ≠ []) (hn : l.length ≤ 128) (hz : ∀ s ∈ l, s.size ≤ 32) : Calls Tryd.prog 13 #[v, .string ⟨#[44]⟩] w fun e w' => e = .returned (.string (mkB (joinC (datas l)))) ∧ w = w' := by
  obtain ⟨b, off, cap, rfl, hc⟩ := strs_open hs hl
  have HC := Lib.hid hc
  have HZ := Lib.hid hz
  obtain ⟨n, hn9⟩ : ∃ n, n = l.length := ⟨_, rfl⟩
  rw [← hn9] at hn ⊢
  have HN := Lib.hid hn9
  have HR : Hid (joinC (datas l) = joinC (datas (l.take n))) := Lib.hid (by rw [hn9, List.take_length])
  have hn1 : 0 < n := by rw [hn9]; exact List.length_pos_iff.2 hl
  clear hc hz hs hn9
  have HL := Lib.hid hl
  clear hl
  rw [HR.out]
  go_enter Tryd.func13, Tryd.ntmps13
  go_wp2_with fail
  go_loop [5, 10] (fun a i => ∃ (j : Nat) (cur : ByteArray), j ≤ n ∧ i = .int .i64 j ∧ a = .string cur ∧ cur.size ≤ 33 * j ∧ Hid (cur.data.toList = joinC (datas (l.take j)))) (fun _ i => n - (intOf i).toNat)
  case atStart => exact ⟨0, ByteArray.empty, by omega, rfl, rfl, by decide, Lib.hid rfl⟩
  case round =>
    obtain ⟨j, cur, hj, rfl, rfl, hcz, hcur⟩ := hrel
    by_cases hlt : j < n
    · have hlp : j < l.length := by rw [← HN.out]; exact hlt
      obtain ⟨x, hx⟩ : ∃ x, l[j]? = some x := ⟨_, List.getElem?_eq_getElem hlp⟩
      have hy : w.cell? ⟨b, off + j, none⟩ = some (.string x) := HC.out j x hx
      have hxz : x.size ≤ 32 := HZ.out x (List.mem_of_getElem? hx)
      have HT : Hid (datas (l.take (j + 1)) = datas (l.take j) ++ [x.data.toList]) := Lib.hid (by
        rw [take_snoc l j x hx]
        unfold datas
        rw [List.map_append]
        rfl)
      by_cases h0 : j = 0
      · subst h0
        have hy0 : w.cell? ⟨b, off, none⟩ = some (.string x) := by simpa using hy
        clear hy
        have HV : Hid ((cur ++ x).data.toList = joinC (datas (l.take (0 + 1)))) := Lib.hid (by
          rw [HT.out, data_app, hcur.out]
          simp [datas, joinC])
        have hsz : (cur ++ x).size ≤ 33 * 1 := by rw [ByteArray.size_append]; omega
        clear hx hlp
        go_wp2_with fail
        go_round
        case rel => exact ⟨0 + 1, cur ++ x, by omega, by go_num, rfl, hsz, HV⟩
        case measure => simp [intOf]; omega
      · have HV : Hid (((cur ++ ⟨#[44]⟩) ++ x).data.toList = joinC (datas (l.take (j + 1)))) := Lib.hid (by
          rw [HT.out, data_app, data_app, hcur.out, joinC_snoc]
          · simp
          · intro h
            have := congrArg List.length h
            unfold datas at this
            rw [List.length_map, List.length_take] at this
            simp only [List.length_nil] at this
            omega)
        have hsz : ((cur ++ ⟨#[44]⟩) ++ x).size ≤ 33 * (j + 1) := by rw [ByteArray.size_append, ByteArray.size_append]; have : (⟨#[44]⟩ : ByteArray).size = 1 := rfl; omega
        have q1 : decide ((0 : Int) < (j : Int)) = true := decide_eq_true (by omega)
        clear hx hlp
        go_wp2_with fail
        go_round
        case rel => exact ⟨j + 1, (cur ++ ⟨#[44]⟩) ++ x, by omega, by go_num, rfl, hsz, HV⟩
        case measure => simp [intOf]; omega
    · have e : j = n := by omega
      have HV : Hid (cur = mkB (joinC (datas (l.take n)))) := Lib.hid (bytes_ext (by rw [hcur.out, mkB_data, e]))
      clear e
      go_wp2_with fail
      go_ret
      exact ⟨ret_str HV.out, rfl⟩
end Go.Proofs.YtkhggefbkhdimaaDoor
