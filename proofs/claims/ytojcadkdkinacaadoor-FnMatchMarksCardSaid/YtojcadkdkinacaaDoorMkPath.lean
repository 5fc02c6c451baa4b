/- path.scanChunk and path.matchChunk at question marks. -/
import Derived.Test.YtojcadkdkinacaaDoorWk
import Derived.Test.YtojcadkdkinacaaDoorRefPlain
import Derived.Test.YtojcadkdkinacaaDoorRefFirst
namespace Go.Proofs.YtojcadkdkinacaaDoor
open Go.RowKit
set_option linter.unusedVariables false
set_option linter.unusedSimpArgs false

/-- Question marks alone. -/
def AllQ (T : ByteArray) : Prop := ∀ c ∈ T.data.toList, c.toNat = 63
theorem AllQ.get {T : ByteArray} (h : AllQ T) (k : Nat) (hk : k < T.size) : ((T[k]).toNat : Int) = 63 := by
  have := h (T[k]) (by rw [str_get T k hk]; exact List.getElem_mem _)
  omega
theorem AllQ.cut {T : ByteArray} (h : AllQ T) (a b : Nat) : AllQ (T.extract a b) := by
  intro c hc
  refine h c ?_
  rw [ByteArray.data_extract, Array.toList_extract, List.extract_eq_take_drop] at hc
  exact List.mem_of_mem_drop (List.mem_of_mem_take hc)

def strSz : Value → Nat
  | .string s => s.size
  | _ => 0
theorem AllQ.ne {T : ByteArray} (h : AllQ T) (k : Nat) (hk : k < T.size) (c : Int) (hc : c ≠ 63) : (((T[k]).toNat : Int) == c) = false := by
  have := h.get k hk
  simp; omega

set_option maxRecDepth 100000 in
set_option maxHeartbeats 2000000 in
theorem scanChunk_q (T : ByteArray) (hq : Hid (AllQ T)) (h1 : 1 ≤ T.size) (hs : T.size ≤ 200) (w : World) :
    Calls Tryd.prog 16 #[.string T] w fun e w' => e = .returned (.tuple #[.bool false, .string T, .string ⟨#[]⟩]) ∧ w = w' := by
  have q0 := hq.out.ne 0 (by omega) 42 (by decide)
  have l0 : (0 : Int) < (T.size : Int) := by omega
  have l1 : ((0 : Int) < (T.size : Int)) = True := by simp; omega
  go_enter Tryd.func16, Tryd.ntmps16
  go_wp2_with fail
  go_loop [0, 2] (fun p st => p = .string T ∧ st = .bool false) (fun _ _ => 0)
  case atStart => exact ⟨rfl, rfl⟩
  case round =>
    obtain ⟨rfl, rfl⟩ := hrel
    go_wp2_with fail
    go_loop [2, 5, 6] (fun st r i => st = .bool false ∧ r = .bool false ∧ ∃ k : Nat, k ≤ T.size ∧ i = .int .i64 k) (fun _ _ i => T.size - (intOf i).toNat)
    case atStart => exact ⟨rfl, rfl, 0, by omega, rfl⟩
    case round =>
      obtain ⟨rfl, rfl, k, hk, rfl⟩ := hrel
      by_cases hlt : k < T.size
      · have a1 := hq.out.ne k hlt 92 (by decide)
        have a2 := hq.out.ne k hlt 91 (by decide)
        have a3 := hq.out.ne k hlt 93 (by decide)
        have a4 := hq.out.ne k hlt 42 (by decide)
        go_wp2_with fail
        go_round
        case rel => exact ⟨rfl, rfl, k + 1, by omega, by go_num⟩
        case measure => simp [intOf]; omega
      · have e : k = T.size := by omega
        go_wp2_with fail
        refine bodyPost_ret (v := .tuple #[.bool false, .string T, .string ⟨#[]⟩]) (by simp [results, Tryd.results16, go_sem]) rfl ⟨rfl, rfl⟩

set_option maxRecDepth 100000 in
set_option maxHeartbeats 2000000 in
/-- The first byte of a text below 128: decoded, it is itself. -/
theorem decode_ascii (s : ByteArray) (h0 : 0 < s.size) (h1 : ((s[0]).toNat : Int) < 128) (w : World) :
    Calls Tryd.prog 19 #[.string s] w fun e w' => (∃ r : Int, e = .returned (.tuple #[.int .i32 r, .int .i64 1])) ∧ w = w' := by
  have i1 : (((s[0]).toNat : Int) < 128) = True := by simp; omega
  have i3 : s.toList.isEmpty = false := by
    rw [ByteArray.toList_eq]
    cases hl : s.data.toList with
    | nil => have := str_len s; rw [hl] at this; simp at this; omega
    | cons x xs => rfl
  go_enter Tryd.func19, Tryd.ntmps19
  go_wp2_with fail
  refine bodyPost_ret (v := .tuple #[.int .i32 (s[0].toNat : Int), .int .i64 1]) (by simp [results, Tryd.results19, go_sem]) rfl ⟨⟨_, rfl⟩, rfl⟩

theorem ext_size (S : ByteArray) (k : Nat) (hk : k ≤ S.size) : (S.extract k S.size).size = S.size - k := by
  rw [ByteArray.size_extract]; omega
theorem ext_ext (S : ByteArray) (k : Nat) (hk : k ≤ S.size) : (S.extract k S.size).extract 1 (S.extract k S.size).size = S.extract (k + 1) S.size := by
  apply bytes_ext
  rw [ext_size S k hk]
  simp only [ByteArray.data_extract, Array.toList_extract, List.extract_eq_take_drop]
  rw [List.drop_take, List.drop_drop, List.take_take]
  congr 1
  omega
theorem ext_get (S : ByteArray) (k : Nat) (hk : k < S.size) (h0 : 0 < (S.extract k S.size).size) : (S.extract k S.size)[0] = S[k] := by
  rw [str_get, str_get]
  simp [ByteArray.data_extract]

def chunkR (n : Nat) (S : ByteArray) (e : Ending) : Prop :=
  (n ≤ fstIx S.data.toList 47 → e = .returned (.tuple #[.string (S.extract n S.size), .bool true, .nilIface])) ∧
  (¬ n ≤ fstIx S.data.toList 47 → e = .returned (.tuple #[.string ⟨#[]⟩, .bool false, .nilIface]))

set_option maxRecDepth 100000 in
set_option maxHeartbeats 4000000 in
theorem matchChunk_q (T S : ByteArray) (hq : Hid (AllQ T)) (hs : T.size ≤ 200) (hS : S.size ≤ 200) (hp : Hid (∀ k (h : k < S.size), ((S[k]).toNat : Int) < 128)) (w : World) :
    Calls Tryd.prog 18 #[.string T, .string S] w fun e w' => chunkR T.size S e ∧ w = w' := by
  go_enter Tryd.func18, Tryd.ntmps18
  go_wp2_with fail
  go_loop [0, 1, 7] (fun c s f => ∃ (k : Nat) (cur rest : ByteArray), c = .string cur ∧ s = .string rest ∧ k ≤ T.size ∧ Hid (cur.size = T.size - k) ∧ Hid (AllQ cur) ∧ ((f = .bool false ∧ k ≤ S.size ∧ Hid (rest.size = S.size - k) ∧ Hid (rest = S.extract k S.size) ∧ Hid (k ≤ fstIx S.data.toList 47)) ∨ (f = .bool true ∧ Hid (¬ T.size ≤ fstIx S.data.toList 47)))) (fun c _ _ => strSz c)
  case atStart => exact ⟨0, T, S, rfl, rfl, by omega, by show T.size = _; omega, hq, .inl ⟨rfl, by omega, by show S.size = _; omega, by show S = _; apply bytes_ext; simp [ByteArray.data_extract], Nat.zero_le _⟩⟩
  case round =>
    obtain ⟨k, cur, rest, rfl, rfl, hk, hcs, hcq, hst⟩ := hrel
    by_cases hlt : k < T.size
    · have zc : 0 < cur.size := by have := hcs.out; omega
      have l1 : ((0 : Int) < (cur.size : Int)) = True := eq_true (by omega)
      have q1 := hcq.out.ne 0 zc 91 (by decide)
      have q2 : (((cur[0]'zc).toNat : Int) == 63) = true := by have := hcq.out.get 0 zc; simp; omega
      have q3 := hcq.out.ne 0 zc 92 (by decide)
      have hc2 : Hid (AllQ (cur.extract 1 cur.size)) := hcq.out.cut 1 _
      have z2 : Hid ((cur.extract 1 cur.size).size = T.size - (k + 1)) := by show _ = _; have := hcs.out; rw [ByteArray.size_extract]; omega
      have z3 : (cur.extract 1 cur.size).size < cur.size := by rw [ByteArray.size_extract]; omega
      rcases hst with ⟨rfl, hkS, hrs, hre, hns⟩ | ⟨rfl, hbad⟩
      · by_cases hend : k < S.size
        · have zr : 0 < rest.size := by have := hrs.out; omega
          have l2 : ((rest.size : Int) == 0) = false := by rw [beq_eq_false_iff_ne]; omega
          have l3 : ((rest.size : Int) = 0) = False := eq_false (by omega)
          have eg : (rest[0]'zr) = S[k] := by
            have h := hre.out
            subst h
            exact ext_get S k hend zr
          have hd := decode_ascii rest zr (by rw [eg]; exact hp.out k hend)
          have HD := Lib.hid hd
          clear hd
          have er : Hid (rest.extract 1 rest.size = S.extract (k + 1) S.size) := by
            have h := hre.out
            subst h
            exact ext_ext S k hkS
          have sr : Hid ((rest.extract 1 rest.size).size = S.size - (k + 1)) := by show _ = _; have := hrs.out; rw [ByteArray.size_extract]; omega
          cases hb : (((S[k]).toNat : Int) == 47) with
          | false =>
            have b1 : (((rest[0]'zr).toNat : Int) == 47) = false := by rw [eg]; exact hb
            have hn2 := Lib.hid (missS S 47 k hend hns.out hb)
            clear eg hb
            go_wp2_with fail
            refine (HD.out _).mono ?_
            rintro e w' ⟨⟨r, rfl⟩, rfl⟩
            go_wp2_with fail
            go_round
            case rel => exact ⟨k + 1, _, _, rfl, rfl, by omega, z2, hc2, .inl ⟨rfl, by omega, sr, er, hn2⟩⟩
            case measure => exact z3
          | true =>
            have b1 : (((rest[0]'zr).toNat : Int) == 47) = true := by rw [eg]; exact hb
            have hn2 : Hid (¬ T.size ≤ fstIx S.data.toList 47) := by
              show ¬ _
              have := fstIx_hit S.data.toList 47 k (by rw [str_len]; exact hend) hns.out hb
              omega
            clear eg hb
            go_wp2_with fail
            refine (HD.out _).mono ?_
            rintro e w' ⟨⟨r, rfl⟩, rfl⟩
            go_wp2_with fail
            go_round
            case rel => exact ⟨k + 1, _, _, rfl, rfl, by omega, z2, hc2, .inr ⟨rfl, hn2⟩⟩
            case measure => exact z3
        · have l2 : ((rest.size : Int) == 0) = true := by have := hrs.out; rw [beq_iff_eq]; omega
          have l3 : ((rest.size : Int) = 0) = True := eq_true (by have := hrs.out; omega)
          have hn2 : Hid (¬ T.size ≤ fstIx S.data.toList 47) := by
            show ¬ _
            have := fstIx_le S.data.toList 47
            rw [str_len] at this
            omega
          go_wp2_with fail
          go_round
          case rel => exact ⟨k + 1, _, _, rfl, rfl, by omega, z2, hc2, .inr ⟨rfl, hn2⟩⟩
          case measure => exact z3
      · go_wp2_with fail
        go_round
        case rel => exact ⟨k + 1, _, _, rfl, rfl, by omega, z2, hc2, .inr ⟨rfl, hbad⟩⟩
        case measure => exact z3
    · have l0 : cur.size = 0 := by have := hcs.out; omega
      have ek : k = T.size := by omega
      rcases hst with ⟨rfl, hkS, hrs, hre, hns⟩ | ⟨rfl, hbad⟩
      · have hre2 := hre.out
        have hns2 := hns.out
        rw [ek] at hre2 hns2
        have HR := Lib.hid hre2
        have HN := Lib.hid hns2
        clear hre2 hns2
        go_wp2_with fail
        refine bodyPost_ret (v := .tuple #[.string rest, .bool true, .nilIface]) (by simp [results, Tryd.results18, go_sem]) rfl ⟨⟨fun _ => by rw [HR.out], fun h => absurd HN.out h⟩, rfl⟩
      · go_wp2_with fail
        refine bodyPost_ret (v := .tuple #[.string ⟨#[]⟩, .bool false, .nilIface]) (by simp [results, Tryd.results18, go_sem]) rfl ⟨⟨fun h => absurd h hbad.out, fun _ => rfl⟩, rfl⟩
end Go.Proofs.YtojcadkdkinacaaDoor
