/- The printed form of a version with valid parts, cut as it is read (plain), and read strictly. -/
import Derived.Test.YtbipmpojmfbekaaDoorPrintImpl
import Derived.Lib.ParseIntBCases
namespace Go.Proofs.YtbipmpojmfbekaaDoor
open Go.RowKit
set_option linter.unusedVariables false
set_option linter.unusedSimpArgs false

/-- No byte of s is c. -/
def freeB (c : Int) (s : ByteArray) : Prop := ∀ x ∈ s.data.toList, (x.toNat : Int) ≠ c
theorem lst_ext {A B : ByteArray} (h : A.data.toList = B.data.toList) : A = B := ByteArray.ext (Array.toList_inj.1 h)
theorem sz_len (s : ByteArray) : s.data.toList.length = s.size := by simp
theorem fst_free (s : ByteArray) (c : Int) (h : freeB c s) : fstInt s.data.toList c < 0 := by
  unfold fstInt
  have e : fstIx s.data.toList c = s.data.toList.length := by
    unfold fstIx
    rw [List.findIdx_eq_length]
    intro x hx
    rw [beq_eq_false_iff_ne]; exact h x hx
  rw [if_neg (by omega)]; omega
theorem fst_sep (A B : ByteArray) (s : UInt8) (c : Int) (h : freeB c A) (hs : (s.toNat : Int) = c) : fstInt (A ++ ⟨#[s]⟩ ++ B).data.toList c = A.size := by
  have e : (A ++ ⟨#[s]⟩ ++ B).data.toList = A.data.toList ++ s :: B.data.toList := by rw [cat_list, cat_list]; simp
  have k : fstIx (A.data.toList ++ s :: B.data.toList) c = A.size := by
    unfold fstIx
    rw [List.findIdx_append, if_neg]
    · rw [List.findIdx_cons]
      have : (((s.toNat : Int) == c)) = true := by rw [beq_iff_eq]; exact hs
      rw [this]; simp
    · rw [List.findIdx_eq_length.2]
      · omega
      · intro x hx; rw [beq_eq_false_iff_ne]; exact h x hx
  rw [e]; unfold fstInt
  rw [k, if_pos (by simp)]
theorem cutN_sep (A B : ByteArray) (s : UInt8) (c : Int) (m : Nat) (h : freeB c A) (hs : (s.toNat : Int) = c) : cutN c (m + 1) (A ++ ⟨#[s]⟩ ++ B) = A :: cutN c m B := by
  rw [cutN_at c m _ A.size (fst_sep A B s c h hs)]
  have e : (A ++ ⟨#[s]⟩ ++ B).data.toList = A.data.toList ++ s :: B.data.toList := by rw [cat_list, cat_list]; simp
  have z : (A ++ ⟨#[s]⟩ ++ B).size = A.size + 1 + B.size := by simp only [ByteArray.size_append]; rfl
  congr 1
  · apply lst_ext
    rw [Lib.extract_data, e]
    simp only [List.drop_zero, Nat.sub_zero]
    rw [← sz_len A]; exact List.take_left
  · congr 1
    apply lst_ext
    rw [Lib.extract_data, e, z]
    rw [show A.data.toList ++ s :: B.data.toList = (A.data.toList ++ [s]) ++ B.data.toList by simp, List.drop_append_of_le_length (by simp), List.drop_of_length_le (by simp), List.nil_append]
    exact List.take_of_length_le (by rw [sz_len]; omega)

/-! The digits of a number. -/
theorem dec_head (u : Nat) : 0 < u → ∀ x r, Lib.decDigits u = x :: r → x.toNat ≠ 48 := by
  induction u using Nat.strongRecOn with
  | ind u ih =>
    intro h0 x r e
    by_cases h : u < 10
    · rw [Lib.decDigits_one h] at e
      injection e with e1 e2
      rw [← e1, ofNat_digit u h]; omega
    · rw [Lib.decDigits, dif_neg h] at e
      cases hl : Lib.decDigits (u / 10) with
      | nil => exact absurd hl (dec_ne _)
      | cons y t =>
        rw [hl] at e
        injection e with e1 e2
        rw [← e1]; exact ih (u / 10) (by omega) (by omega) y t hl
theorem decB_eq (x : Int) : decB x = decT x.toNat := rfl
theorem decB_free (c : Int) (h : c < 48 ∨ 57 < c) (x : Int) : freeB c (decB x) := by rw [decB_eq]; exact decT_free c h _
theorem dec_mag (u : Nat) (hu : u < 18446744073709551616) : Lib.parseUintB 64 (decT u).data.toList = .ok u := by
  rw [Lib.parseUintB_64, decT_list]
  unfold Lib.parseMag
  rw [if_neg (dec_ne u)]
  have := dec_parse u [] hu
  rw [List.append_nil] at this
  rw [this]; rfl
theorem dec_num (x : Int) (h0 : 0 ≤ x) (h1 : x < 18446744073709551616) : ((numN (decB x) : Nat) : Int) = x := by
  unfold numN
  rw [decB_eq, dec_mag _ (by omega)]
  show ((x.toNat : Nat) : Int) = x
  omega
theorem dec_ok (x : Int) (h0 : 0 ≤ x) (h1 : x < 18446744073709551616) : NumOk (decB x) := by
  have hd : ∀ b ∈ (decB x).data.toList, 48 ≤ b.toNat ∧ b.toNat ≤ 57 := by
    intro b hb
    rw [decB_eq, decT_list] at hb
    exact dec_digits _ b hb
  refine ⟨?_, ?_, ?_, ?_, ?_⟩
  · unfold plainB
    rw [List.all_eq_true]
    intro b hb
    have := hd b hb
    exact decide_eq_true (by omega)
  · unfold onlyB
    rw [List.all_eq_true]
    intro b hb
    have := hd b hb
    rw [num_in]
    unfold dgI
    rw [Bool.and_eq_true]
    exact ⟨decide_eq_true (by omega), decide_eq_true (by omega)⟩
  · intro hz h
    rw [beq_eq_false_iff_ne]
    have hu : 0 < x.toNat := by
      rcases Nat.eq_zero_or_pos x.toNat with e | e
      · have : (decB x).size = 1 := by rw [decB_eq, e]; show (Lib.decDigits 0).toArray.size = 1; rw [Lib.decDigits_one (by omega)]; rfl
        omega
      · exact e
    cases hl : Lib.decDigits x.toNat with
    | nil => exact absurd hl (dec_ne _)
    | cons y t =>
      have hy := dec_head _ hu y t hl
      have e1 : (decB x).data.toList = y :: t := by rw [decB_eq, decT_list, hl]
      have e2 : (decB x)[0] = y := by
        rw [str_get]
        simp [e1]
      rw [e2]; omega
  · unfold badN
    rw [decB_eq, dec_mag _ (by omega)]
  · have := decB_size x h0 h1; omega

/-! A valid text has letters, digits, hyphens and dots alone. -/
theorem cut_cover (c : Int) (f : UInt8 → Prop) (l : List UInt8) : (∀ q ∈ cutL c l, ∀ x ∈ q, f x) → ∀ x ∈ l, (x.toNat : Int) = c ∨ f x := by
  induction l with
  | nil => intro _ x hx; cases hx
  | cons y ys ih =>
    intro h x hx
    by_cases hy : (((y.toNat : Int) == c)) = true
    · rw [cutL, if_pos hy] at h
      rcases List.mem_cons.1 hx with e | e
      · left; rw [e]; exact beq_iff_eq.1 hy
      · exact ih (fun q hq => h q (List.mem_cons_of_mem _ hq)) x e
    · rw [cutL, if_neg hy] at h
      cases hc : cutL c ys with
      | nil => exact absurd hc (cutL_ne c ys)
      | cons q qs =>
        rw [hc] at h
        dsimp only at h
        have h2 : ∀ r ∈ cutL c ys, ∀ x ∈ r, f x := by
          rw [hc]
          intro r hr
          rcases List.mem_cons.1 hr with e | e
          · rw [e]; intro x hx; exact h (y :: q) (by simp) x (by simp [hx])
          · exact h r (by simp [e])
        rcases List.mem_cons.1 hx with e | e
        · right; rw [e]; exact h (y :: q) (by simp) y (by simp)
        · exact ih h2 x e
theorem vid_free (s : ByteArray) (h : (cutB 46 s).all vidB = true) : freeB 43 s := by
  intro x hx
  have := cut_cover 46 (fun b => idI (b.toNat : Int) = true) s.data.toList (by
    intro q hq b hb
    rw [List.all_eq_true] at h
    have h2 := h ⟨q.toArray⟩ (by unfold cutB; exact List.mem_map.2 ⟨q, hq, rfl⟩)
    unfold vidB allB at h2
    rw [Bool.and_eq_true, List.all_eq_true] at h2
    exact h2.1 b (by simpa using hb)) x hx
  rcases this with e | e
  · omega
  · intro e2
    rw [e2] at e
    revert e; decide
theorem pre_vid (s : ByteArray) (h : (cutB 46 s).all preOk = true) : (cutB 46 s).all vidB = true := by
  rw [List.all_eq_true] at h ⊢
  intro q hq
  have := h q hq
  unfold preOk at this
  rw [Bool.and_eq_true] at this
  exact this.1
theorem free_cat (c : Int) (A B : ByteArray) (s : UInt8) (hA : freeB c A) (hB : freeB c B) (hs : (s.toNat : Int) ≠ c) : freeB c (A ++ ⟨#[s]⟩ ++ B) := by
  intro x hx
  rw [cat_list, cat_list] at hx
  rcases List.mem_append.mp hx with h | h
  · rcases List.mem_append.mp h with h | h
    · exact hA x h
    · have h2 : x = s := by simpa using h
      rw [h2]; exact hs
  · exact hB x h
theorem empty_of {s : ByteArray} (h : s.toList.isEmpty = true) : s = ⟨#[]⟩ := by
  have h2 : s.toList = [] := by simpa using h
  rw [ByteArray.toList_eq] at h2
  exact lst_ext h2
/-- The text of three numbers and what is behind them. -/
theorem cut_core (a b c : Int) (R : ByteArray) : cutN 46 2 (decB a ++ ⟨#[46]⟩ ++ (decB b ++ ⟨#[46]⟩ ++ R)) = [decB a, decB b, R] := by
  rw [cutN_sep (decB a) _ 46 46 1 (decB_free 46 (by omega) a) rfl, cutN_sep (decB b) _ 46 46 0 (decB_free 46 (by omega) b) rfl]; rfl
def zeroT : ByteArray := ⟨#[48]⟩
theorem zero_pre : (cutB 46 zeroT).all preOk = true := by kernel_rfl
theorem zero_vid : (cutB 46 zeroT).all vidB = true := by kernel_rfl

theorem print_strict (a b c : Int) (p m : ByteArray) (a0 : 0 ≤ a) (a1 : a < 18446744073709551616) (b0 : 0 ≤ b) (b1 : b < 18446744073709551616) (c0 : 0 ≤ c) (c1 : c < 18446744073709551616) (hg : goodB p m = true) (hs : (textB a b c p m).size ≤ 256) (W : World) :
    Calls Tryd.prog 13 #[.string (textB a b c p m)] W (StrictPost a b c p m (textB a b c p m) W) := by
  have nA := dec_ok a a0 a1
  have nB := dec_ok b b0 b1
  have nC := dec_ok c c0 c1
  have zA : (decB a).size ≤ 20 := decB_size a a0 a1
  have zC : (decB c).size ≤ 20 := decB_size c c0 c1
  have eA := dec_num a a0 a1
  have eB := dec_num b b0 b1
  have eC := dec_num c c0 c1
  have f43 := decB_free 43 (by omega) c
  have f45 := decB_free 45 (by omega) c
  unfold goodB at hg
  rw [Bool.and_eq_true] at hg
  have o1 : (⟨#[45]⟩ : ByteArray).size = 1 := rfl
  have o2 : (⟨#[43]⟩ : ByteArray).size = 1 := rfl
  have o3 : (⟨#[46]⟩ : ByteArray).size = 1 := rfl
  cases h1 : p.toList.isEmpty with
  | true =>
    have ep := empty_of h1
    cases h2 : m.toList.isEmpty with
    | true =>
      have em := empty_of h2
      have eT : textB a b c p m = decB a ++ (⟨#[46]⟩ : ByteArray) ++ (decB b ++ (⟨#[46]⟩ : ByteArray) ++ decB c) := by
        unfold textB coreB; rw [if_pos h1, if_pos h2]; apply lst_ext; simp only [cat_list, List.append_assoc]
      have hz := hs
      rw [eT] at hz
      generalize textB a b c p m = T at *
      simp only [ByteArray.size_append, o3] at hz
      have HT := cut_core a b c (decB c)
      rw [← eT] at HT
      have H43 : Hid (decB c = decB c ∧ fstInt (decB c).data.toList 43 < 0) := hid9 ⟨rfl, fst_free _ _ f43⟩
      have H45 : Hid (decB c = decB c ∧ fstInt (decB c).data.toList 45 < 0) := hid9 ⟨rfl, fst_free _ _ f45⟩
      have := strict_nn T (decB a) (decB b) (decB c) zeroT zeroT (decB c) (decB c) (by rw [eT]; simp only [ByteArray.size_append, o3]; omega) hs (by omega) (by omega) (by omega) (by decide) (by decide) HT H43 H45 nA nB nC zero_vid zero_pre W
      rw [eA, eB, eC] at this
      rw [ep, em]
      exact this
    | false =>
      have vm : (cutB 46 m).all vidB = true := by have := hg.2; rw [h2] at this; simpa [vmetaB] using this
      have eT : textB a b c p m = decB a ++ (⟨#[46]⟩ : ByteArray) ++ (decB b ++ (⟨#[46]⟩ : ByteArray) ++ (decB c ++ (⟨#[43]⟩ : ByteArray) ++ m)) := by
        unfold textB coreB; rw [if_pos h1, if_neg (by rw [h2]; decide)]; apply lst_ext; simp only [cat_list, List.append_assoc]
      have hz := hs
      rw [eT] at hz
      generalize textB a b c p m = T at *
      simp only [ByteArray.size_append, o3, o2] at hz
      have HT := cut_core a b c (decB c ++ (⟨#[43]⟩ : ByteArray) ++ m)
      rw [← eT] at HT
      have H43 : Hid (cutN 43 1 (decB c ++ (⟨#[43]⟩ : ByteArray) ++ m) = [decB c, m] ∧ 0 ≤ fstInt (decB c ++ (⟨#[43]⟩ : ByteArray) ++ m).data.toList 43) := hid9 ⟨cutN_sep _ _ 43 43 0 f43 rfl, by rw [fst_sep _ _ 43 43 f43 rfl]; omega⟩
      have H45 : Hid (decB c = decB c ∧ fstInt (decB c).data.toList 45 < 0) := hid9 ⟨rfl, fst_free _ _ f45⟩
      have := strict_mn T (decB a) (decB b) (decB c) zeroT m (decB c ++ (⟨#[43]⟩ : ByteArray) ++ m) (decB c) (by rw [eT]; simp only [ByteArray.size_append, o3]; omega) hs (by omega) (by simp only [ByteArray.size_append, o2]; omega) (by omega) (by decide) (by omega) HT H43 H45 nA nB nC vm zero_pre W
      rw [eA, eB, eC] at this
      rw [ep]
      exact this
  | false =>
    have vp : (cutB 46 p).all preOk = true := by have := hg.1; rw [h1] at this; simp [vpreB] at this; rw [List.all_eq_true]; exact this.1
    have fp := vid_free p (pre_vid p vp)
    have f43' := free_cat 43 (decB c) p 45 f43 fp (by decide)
    cases h2 : m.toList.isEmpty with
    | true =>
      have em := empty_of h2
      have eT : textB a b c p m = decB a ++ (⟨#[46]⟩ : ByteArray) ++ (decB b ++ (⟨#[46]⟩ : ByteArray) ++ (decB c ++ (⟨#[45]⟩ : ByteArray) ++ p)) := by
        unfold textB coreB; rw [if_neg (by rw [h1]; decide), if_pos h2]; apply lst_ext; simp only [cat_list, List.append_assoc]
      have hz := hs
      rw [eT] at hz
      generalize textB a b c p m = T at *
      simp only [ByteArray.size_append, o3, o1] at hz
      have HT := cut_core a b c (decB c ++ (⟨#[45]⟩ : ByteArray) ++ p)
      rw [← eT] at HT
      have H43 : Hid (decB c ++ (⟨#[45]⟩ : ByteArray) ++ p = decB c ++ (⟨#[45]⟩ : ByteArray) ++ p ∧ fstInt (decB c ++ (⟨#[45]⟩ : ByteArray) ++ p).data.toList 43 < 0) := hid9 ⟨rfl, fst_free _ _ f43'⟩
      have H45 : Hid (cutN 45 1 (decB c ++ (⟨#[45]⟩ : ByteArray) ++ p) = [decB c, p] ∧ 0 ≤ fstInt (decB c ++ (⟨#[45]⟩ : ByteArray) ++ p).data.toList 45) := hid9 ⟨cutN_sep _ _ 45 45 0 f45 rfl, by rw [fst_sep _ _ 45 45 f45 rfl]; omega⟩
      have := strict_np T (decB a) (decB b) (decB c) p zeroT (decB c ++ (⟨#[45]⟩ : ByteArray) ++ p) (decB c ++ (⟨#[45]⟩ : ByteArray) ++ p) (by rw [eT]; simp only [ByteArray.size_append, o3]; omega) hs (by omega) (by simp only [ByteArray.size_append, o1]; omega) (by simp only [ByteArray.size_append, o1]; omega) (by omega) (by decide) HT H43 H45 nA nB nC zero_vid vp W
      rw [eA, eB, eC] at this
      rw [em]
      exact this
    | false =>
      have vm : (cutB 46 m).all vidB = true := by have := hg.2; rw [h2] at this; simpa [vmetaB] using this
      have eT : textB a b c p m = decB a ++ (⟨#[46]⟩ : ByteArray) ++ (decB b ++ (⟨#[46]⟩ : ByteArray) ++ (decB c ++ (⟨#[45]⟩ : ByteArray) ++ p ++ (⟨#[43]⟩ : ByteArray) ++ m)) := by
        unfold textB coreB; rw [if_neg (by rw [h1]; decide), if_neg (by rw [h2]; decide)]; apply lst_ext; simp only [cat_list, List.append_assoc]
      have hz := hs
      rw [eT] at hz
      generalize textB a b c p m = T at *
      simp only [ByteArray.size_append, o3, o1, o2] at hz
      have HT := cut_core a b c (decB c ++ (⟨#[45]⟩ : ByteArray) ++ p ++ (⟨#[43]⟩ : ByteArray) ++ m)
      rw [← eT] at HT
      have H43 : Hid (cutN 43 1 (decB c ++ (⟨#[45]⟩ : ByteArray) ++ p ++ (⟨#[43]⟩ : ByteArray) ++ m) = [decB c ++ (⟨#[45]⟩ : ByteArray) ++ p, m] ∧ 0 ≤ fstInt (decB c ++ (⟨#[45]⟩ : ByteArray) ++ p ++ (⟨#[43]⟩ : ByteArray) ++ m).data.toList 43) := hid9 ⟨cutN_sep _ _ 43 43 0 f43' rfl, by rw [fst_sep _ _ 43 43 f43' rfl]; omega⟩
      have H45 : Hid (cutN 45 1 (decB c ++ (⟨#[45]⟩ : ByteArray) ++ p) = [decB c, p] ∧ 0 ≤ fstInt (decB c ++ (⟨#[45]⟩ : ByteArray) ++ p).data.toList 45) := hid9 ⟨cutN_sep _ _ 45 45 0 f45 rfl, by rw [fst_sep _ _ 45 45 f45 rfl]; omega⟩
      have := strict_mp T (decB a) (decB b) (decB c) p m (decB c ++ (⟨#[45]⟩ : ByteArray) ++ p ++ (⟨#[43]⟩ : ByteArray) ++ m) (decB c ++ (⟨#[45]⟩ : ByteArray) ++ p) (by rw [eT]; simp only [ByteArray.size_append, o3]; omega) hs (by omega) (by simp only [ByteArray.size_append, o1, o2]; omega) (by simp only [ByteArray.size_append, o1]; omega) (by omega) (by omega) HT H43 H45 nA nB nC vm vp W
      rw [eA, eB, eC] at this
      exact this
end Go.Proofs.YtbipmpojmfbekaaDoor
