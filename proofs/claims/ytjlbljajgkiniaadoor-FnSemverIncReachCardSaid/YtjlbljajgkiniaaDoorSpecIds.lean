/- spec.Identifiers: the pieces between the dots. -/
import Derived.Test.YtjlbljajgkiniaaDoorSpecChr
namespace Go.Proofs.YtjlbljajgkiniaaDoor
open Go.RowKit

theorem ext_l (s : ByteArray) (f k n : Nat) (h1 : f ≤ k) (h2 : k ≤ n) (h3 : n = s.size) : (s.extract f n).extract 0 (k - f) = s.extract f k := by
  subst h3
  apply bytes_ext
  rw [data_ext, data_ext, data_ext]
  simp only [List.drop_zero, Nat.sub_zero]
  rw [List.take_take, Nat.min_eq_left (by omega)]
theorem ext_r (s : ByteArray) (f k n m : Nat) (h1 : f ≤ k) (h2 : k < n) (h3 : n = s.size) (h4 : m = n - f) : (s.extract f n).extract (k - f + 1) m = s.extract (k + 1) n := by
  subst h3; subst h4
  apply bytes_ext
  rw [data_ext, data_ext, data_ext, List.take_of_length_le (by simp), List.take_of_length_le (by simp), List.drop_drop, List.take_of_length_le (by simp)]
  congr 1; omega
theorem ext_at (s : ByteArray) (f k : Nat) (h1 : f ≤ k) (h2 : k < s.size) (h : k - f < (s.extract f s.size).data.toList.length) : (s.extract f s.size).data.toList[k - f] = s[k] := by
  have e := data_ext s f s.size
  rw [List.getElem_of_eq e, List.getElem_take, List.getElem_drop, str_get]
  congr 1; omega

theorem ids_len (s : ByteArray) (f : Nat) : (s.extract f s.size).data.toList.length = s.size - f := by
  rw [data_ext]; simp

theorem ids_hit (s : ByteArray) (f k : Nat) (h1 : f ≤ k) (h2 : k < s.size) (x : Int) (hx : x = (s[k].toNat : Int)) (ht : (x == 46) = true) (hJ : k - f ≤ fstIx (s.extract f s.size).data.toList 46) :
    cutB 46 (s.extract f s.size) = s.extract f k :: cutB 46 (s.extract (k + 1) s.size) := by
  subst hx
  have hl : k - f < (s.extract f s.size).data.toList.length := by rw [ids_len]; omega
  have e := fstInt_hit (s.extract f s.size).data.toList 46 (k - f) hl hJ (by rw [ext_at s f k h1 h2 hl]; exact ht)
  have := (cutB_at 46 _ (k - f) e).1
  rw [ext_l s f k s.size h1 (by omega) rfl, ext_r s f k s.size _ h1 h2 rfl (by rw [← str_len, ids_len])] at this
  exact this
theorem ids_miss (s : ByteArray) (f k : Nat) (h1 : f ≤ k) (h2 : k < s.size) (x : Int) (hx : x = (s[k].toNat : Int)) (ht : (x == 46) = false) (hJ : k - f ≤ fstIx (s.extract f s.size).data.toList 46) :
    k + 1 - f ≤ fstIx (s.extract f s.size).data.toList 46 := by
  subst hx
  have hl : k - f < (s.extract f s.size).data.toList.length := by rw [ids_len]; omega
  have e := fstIx_miss (s.extract f s.size).data.toList 46 (k - f) hl hJ (by rw [ext_at s f k h1 h2 hl]; exact ht)
  omega
theorem ids_end (s : ByteArray) (f k : Nat) (h2 : ¬ k < s.size) (hJ : k - f ≤ fstIx (s.extract f s.size).data.toList 46) (hf : f ≤ s.size) :
    cutB 46 (s.extract f s.size) = [s.extract f s.size] := by
  apply cutB_none
  rw [fstInt_none _ _ (by rw [ids_len]; omega)]
  decide

set_option maxRecDepth 100000 in
set_option maxHeartbeats 2000000 in
theorem identifiers_any (s : ByteArray) (hs : s.size ≤ 2147483654) (w : World) :
    Calls Tryd.prog 37 #[.string s] w (StrsPost (cutB 46 s) w) := by
  obtain ⟨i0, hi, hz0, hz1, hz2⟩ := info_parts Tryd.infoStr
  go_enter Tryd.func37, Tryd.ntmps37
  go_wp2_with fail
  go_loopw [3, 4, 5] (fun v fv iv wr => ∃ (f k : Nat) (P : List ByteArray), fv = .int .i64 f ∧ iv = .int .i64 k ∧ f ≤ k ∧ k ≤ s.size ∧ P.length ≤ k ∧ wr.ownsRow w.heap.size 9 1 v P.length (strsV P) ∧ Hid (P ++ cutB 46 (s.extract f s.size) = cutB 46 s) ∧ Hid (k - f ≤ fstIx (s.extract f s.size).data.toList 46) ∧ Below w.heap.size w wr)
    (fun _ _ i _ => s.size - (intOf i).toNat)
  case atStart => exact ⟨0, 0, [], rfl, rfl, by omega, by omega, by simp, ⟨by simp [strsV], .inl ⟨rfl, rfl⟩⟩, by show _ = _; simp, Nat.zero_le _, Below.refl _ _⟩
  case round =>
    obtain ⟨f, k, P, rfl, rfl, hfk, hk, hPl, hown, hP, hJ, hb⟩ := hrel
    by_cases hlt : k < s.size
    · obtain ⟨x, hx⟩ : ∃ x : Int, x = (s[k].toNat : Int) := ⟨_, rfl⟩
      have HI := idxS s k hlt x hx
      have HX := Lib.hid hx
      clear hx
      cases hd : (x == 46) with
      | true =>
        have HC := Lib.hid (ids_hit s f k hfk hlt x HX.out hd hJ.out)
        go_wp2_with (at_builtin; refine stop_here ?_)
        unfold Stop
        refine wpList_append_own _ rfl _ _ 58 rfl w.heap.size 9 i0 (.string ByteArray.empty) 1 16 Tryd.underlying58 hi hz0 hz1 hz2 rfl (by decide) _ _ _ rfl (hown.alloc _) ⟨wr.heap.size, 0, none⟩ 1 1 [_] rfl rfl (cell_one_new _ _ _) ?_ ?_ ?_ ?_ ?_
        · intro u hu; rw [List.mem_singleton] at hu; subst hu; rfl
        · unfold maxLen; omega
        · omega
        · have := hb.size; simp; omega
        intro v' w2 hown2 hgrow2 _
        have b2 : Below w.heap.size w w2 := Below.grown (hb.alloc hb.size _) hgrow2 (by have := hb.size; simp; omega) (fun k hk => (hown.lt k hk).1)
        have HO := Lib.hid hown2
        clear hgrow2 hown2
        go_wp2_with fail
        go_roundw
        case rel =>
          refine ⟨k + 1, k + 1, P ++ [s.extract f k], by go_num, by go_num, by omega, by omega, by simp; omega, ?_, ?_, ?_, b2⟩
          · have h9 := HO.out
            rw [show P.length + 1 = (P ++ [s.extract f k]).length from by simp] at h9
            simpa [strsV] using h9
          · show _ = _
            rw [← hP.out, HC.out]; simp
          · show _ ≤ _
            rw [Nat.sub_self]; exact Nat.zero_le _
        case measure => simp [intOf]; omega
      | false =>
        have HC := Lib.hid (ids_miss s f k hfk hlt x HX.out hd hJ.out)
        go_wp2_with fail
        go_roundw
        case rel => exact ⟨f, k + 1, P, rfl, by go_num, by omega, by omega, by omega, hown, hP, HC, hb⟩
        case measure => simp [intOf]; omega
    · have HC := Lib.hid (ids_end s f k hlt hJ.out (by omega))
      go_wp2_with (at_builtin; refine stop_here ?_)
      unfold Stop
      refine wpList_append_own _ rfl _ _ 58 rfl w.heap.size 9 i0 (.string ByteArray.empty) 1 16 Tryd.underlying58 hi hz0 hz1 hz2 rfl (by decide) _ _ _ rfl (hown.alloc _) ⟨wr.heap.size, 0, none⟩ 1 1 [_] rfl rfl (cell_one_new _ _ _) ?_ ?_ ?_ ?_ ?_
      · intro u hu; rw [List.mem_singleton] at hu; subst hu; rfl
      · unfold maxLen; omega
      · omega
      · have := hb.size; simp; omega
      intro v' w2 hown2 hgrow2 _
      have b2 : Below w.heap.size w w2 := Below.grown (hb.alloc hb.size _) hgrow2 (by have := hb.size; simp; omega) (fun k hk => (hown.lt k hk).1)
      have HO := Lib.hid hown2
      clear hgrow2 hown2
      go_wp2_with fail
      go_ret
      refine ⟨_, rfl, ?_, b2⟩
      rw [← hP, HC.out]
      have h9 := HO.out
      rw [show P.length + 1 = (P ++ [s.extract f s.size]).length from by simp] at h9
      simpa [strsV] using h9
end Go.Proofs.YtjlbljajgkiniaaDoor
