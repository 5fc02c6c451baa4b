/- Both texts of FnCronDowOptional are parsed to the same fields. -/
import Derived.Test.YtkhggefbkhdimaaGreatDoorGFm
import Derived.Test.YtkhggefbkhdimaaGreatDoorFeI
import Derived.Test.YtkhggefbkhdimaaGreatDoorFeL
namespace Go.Proofs.YtkhggefbkhdimaaGreatDoor
open Go.RowKit
set_option linter.unusedVariables false
set_option linter.unusedSimpArgs false

theorem prefix_star : ∀ (p l : List UInt8), (∀ c ∈ p, c ≠ 32) → p.isPrefixOf (l ++ [32, 42]) = p.isPrefixOf l
  | [], l, _ => by simp
  | c :: p, [], h => by
    have := h c (by simp)
    simp [List.isPrefixOf, this]
  | c :: p, d :: l, h => by
    simp only [List.cons_append, List.isPrefixOf]
    rw [prefix_star p l (fun x hx => h x (by simp [hx]))]
theorem plainT_star (s t : ByteArray) (h : PlainT s) (ht : t.data.toList = s.data.toList ++ [32, 42]) : plainB t.data.toList = true ∧ t.size ≤ 65600 ∧ t.size ≠ 0 ∧ Lib.hasPrefix t.data.toList [84, 90, 61] = false ∧ Lib.hasPrefix t.data.toList [67, 82, 79, 78, 95, 84, 90, 61] = false ∧ Lib.hasPrefix t.data.toList [64] = false := by
  have hl : t.size = s.size + 2 := by rw [← str_len, ht, ← str_len]; simp
  have := h.size
  refine ⟨?_, by omega, by omega, ?_, ?_, ?_⟩
  · rw [ht]
    have h1 := h.ascii
    unfold plainB at h1 ⊢
    rw [List.all_append, h1]
    decide
  · have h2 := h.tz
    unfold Lib.hasPrefix at h2 ⊢
    rw [ht, prefix_star _ _ (by decide)]; exact h2
  · have h2 := h.cron
    unfold Lib.hasPrefix at h2 ⊢
    rw [ht, prefix_star _ _ (by decide)]; exact h2
  · have h2 := h.at_
    unfold Lib.hasPrefix at h2 ⊢
    rw [ht, prefix_star _ _ (by decide)]; exact h2
theorem words_size : ∀ (l cur : List UInt8) (x : List UInt8), x ∈ wordsA cur l → x.length ≤ cur.length + l.length
  | [], cur, x, h => by
    unfold wordsA at h
    split at h
    · cases h
    · rw [List.mem_singleton] at h; subst h; simp
  | c :: r, cur, x, h => by
    by_cases hb : blankB c = true
    · by_cases hc : cur = []
      · subst hc
        rw [words_blank_e c r hb] at h
        have := words_size r [] x h
        simp at this ⊢; omega
      · rw [words_blank cur c r hc hb, List.mem_cons] at h
        rcases h with rfl | h
        · simp
        · have := words_size r [] x h
          simp at this ⊢; omega
    · rw [words_other cur c r (by simpa using hb)] at h
      have := words_size r _ x h
      simp at this ⊢; omega
theorem wordsB_size (s x : ByteArray) (h : x ∈ wordsB s) : x.size ≤ s.size := by
  unfold wordsB wordsL at h
  obtain ⟨y, hy, rfl⟩ := List.mem_map.1 h
  have := words_size _ _ _ hy
  rw [mkB_size]
  rw [str_len] at this
  simpa using this
theorem dowF_size (o : Int) (s : ByteArray) (hs : s.size ≤ 65536) (i : Nat) : (dowF o (wordsB s) i).length ≤ 65600 := by
  have key : ((expE (tkO o) (wordsB s ++ [starT]) 6).getD i noStr).size ≤ 65600 := by
    rw [List.getD]
    cases hx : (expE (tkO o) (wordsB s ++ [starT]) 6)[i]? with
    | none => exact (by decide : noStr.size ≤ 65600)
    | some x =>
      simp only [Option.getD_some]
      have hm := List.mem_of_getElem? hx
      unfold expE at hm
      obtain ⟨j, _, rfl⟩ := List.mem_map.1 hm
      split
      · rw [List.getD]
        cases hy : (wordsB s ++ [starT])[cntT (tkO o) j]? with
        | none => exact (by decide : noStr.size ≤ 65600)
        | some y =>
          simp only [Option.getD_some]
          have hm2 := List.mem_of_getElem? hy
          rcases List.mem_append.1 hm2 with h | h
          · have := wordsB_size s y h; omega
          · rw [List.mem_singleton] at h; subst h; decide
      · unfold dflt; split <;> decide
  unfold dowF
  rw [str_len]
  exact key
/-- Both texts' answers. -/
theorem both_parse (o : Int) (h : DowO o) (s t : ByteArray) (hs : PlainT s) (ht : t.data.toList = s.data.toList ++ [32, 42]) (hl : wordsB s ≠ []) (hn : (wordsB s).length + 1 = cntT (tkO o) 6) (w : World) (he : Hid (Errs w)) :
    Calls Tryz.prog 15 #[.int .i64 o, .string s] w (PlainR (fun i => fieldJ i (dowF o (wordsB s) i)) w) ∧
    Calls Tryz.prog 15 #[.int .i64 o, .string t] w (PlainR (fun i => fieldJ i (dowF o (wordsB s) i)) w) := by
  have hz : s.size ≠ 0 := by
    intro h0
    apply hl
    have : s.data.toList = [] := List.eq_nil_of_length_eq_zero (by rw [str_len]; exact h0)
    unfold wordsB wordsL
    rw [this]
    rfl
  have hsz := hs.size
  obtain ⟨t1, t2, t3, t4, t5, t6⟩ := plainT_star s t hs ht
  refine ⟨implCron_any o s _ (dow_two o h) (Lib.hid (fun W hE => parse_fields o s (by omega) hz (Lib.hid hs.ascii) hs.tz hs.cron hs.at_ _ (Lib.hid (norm_dowA o h _ hl hn)) (dowF_size o s hsz) W hE)) w he,
    implCron_any o t _ (dow_two o h) (Lib.hid (fun W hE => parse_fields o t t2 t3 (Lib.hid t1) t4 t5 t6 _ (Lib.hid ?_) (dowF_size o s hsz) W hE)) w he⟩
  rw [wordsB_star s t ht]
  exact norm_dowB o h _ hn
end Go.Proofs.YtkhggefbkhdimaaGreatDoor
