/- The published rule of two prereleases, and that the code answers by it. -/
import Derived.Test.YtjlbljajgkiniaaDoorSpecOk
import Derived.Test.YtjlbljajgkiniaaDoorVerGet
namespace Go.Proofs.YtjlbljajgkiniaaDoor
set_option linter.unusedVariables false
set_option linter.unusedSimpArgs false

def digL (l : List UInt8) : Bool := l.all fun b => dgI (b.toNat : Int)
def valL (acc : Nat) : List UInt8 → Nat
  | [] => acc
  | c :: r => valL (acc * 10 + (c.toNat - 48)) r

theorem digL_cons {c : UInt8} {r : List UInt8} (h : digL (c :: r) = true) : (48 ≤ c.toNat ∧ c.toNat ≤ 57) ∧ digL r = true := by
  unfold digL at h
  rw [List.all_cons, Bool.and_eq_true] at h
  obtain ⟨h1, h2⟩ := h
  unfold dgI at h1
  rw [Bool.and_eq_true, decide_eq_true_eq, decide_eq_true_eq] at h1
  exact ⟨⟨by omega, by omega⟩, h2⟩
theorem digL_mk {c : UInt8} {r : List UInt8} (h : 48 ≤ c.toNat ∧ c.toNat ≤ 57) (h2 : digL r = true) : digL (c :: r) = true := by
  unfold digL
  rw [List.all_cons, Bool.and_eq_true]
  refine ⟨?_, h2⟩
  unfold dgI
  rw [Bool.and_eq_true, decide_eq_true_eq, decide_eq_true_eq]
  omega

theorem parse_digits : ∀ (l : List UInt8) (acc k : Nat), digL l = true → acc < 10 ^ k → k + l.length ≤ 19 → Lib.parseUintM (2 ^ 64 - 1) acc l = .ok (valL acc l) := by
  intro l
  induction l with
  | nil => intro acc k _ _ _; rfl
  | cons c r ih =>
    intro acc k h ha hk
    obtain ⟨hc, hr⟩ := digL_cons h
    rw [List.length_cons] at hk
    have h18 : (10 : Nat) ^ k ≤ 10 ^ 18 := Nat.pow_le_pow_right (by decide) (by omega)
    have e18 : (10 : Nat) ^ 18 = 1000000000000000000 := by decide
    have e64 : (2 : Nat) ^ 64 - 1 = 18446744073709551615 := by decide
    unfold Lib.parseUintM
    rw [if_pos hc, if_neg (by omega), if_neg (by rw [e64]; omega)]
    unfold valL
    exact ih _ (k + 1) hr (by rw [Nat.pow_succ]; omega) (by omega)
theorem parse_only : ∀ (l : List UInt8) (M acc u : Nat), Lib.parseUintM M acc l = .ok u → digL l = true := by
  intro l
  induction l with
  | nil => intro _ _ _ _; rfl
  | cons c r ih =>
    intro M acc u h
    unfold Lib.parseUintM at h
    split at h
    · rename_i hc
      split at h
      · cases h
      · split at h
        · cases h
        · exact digL_mk hc (ih _ _ _ h)
    · cases h

theorem valL_lt : ∀ (l : List UInt8) (acc k : Nat), digL l = true → acc < 10 ^ k → valL acc l < 10 ^ (k + l.length) := by
  intro l
  induction l with
  | nil => intro acc k _ h; exact h
  | cons c r ih =>
    intro acc k h ha
    obtain ⟨hc, hr⟩ := digL_cons h
    have := ih (acc * 10 + (c.toNat - 48)) (k + 1) hr (by rw [Nat.pow_succ]; omega)
    unfold valL
    rw [List.length_cons, show k + (r.length + 1) = k + 1 + r.length from by omega]
    exact this
theorem valL_ge : ∀ (l : List UInt8) (acc k : Nat), 10 ^ k ≤ acc → 10 ^ (k + l.length) ≤ valL acc l := by
  intro l
  induction l with
  | nil => intro acc k h; exact h
  | cons c r ih =>
    intro acc k ha
    have := ih (acc * 10 + (c.toNat - 48)) (k + 1) (by rw [Nat.pow_succ]; omega)
    unfold valL
    rw [List.length_cons, show k + (r.length + 1) = k + 1 + r.length from by omega]
    exact this

theorem val_mono : ∀ (l1 l2 : List UInt8), l1.length = l2.length → digL l1 = true → digL l2 = true → ∀ a1 a2 : Nat, a1 < a2 → valL a1 l1 < valL a2 l2 := by
  intro l1
  induction l1 with
  | nil =>
    intro l2 hl _ _ a1 a2 h
    cases l2 with
    | nil => exact h
    | cons _ _ => simp at hl
  | cons c r ih =>
    intro l2 hl h1 h2 a1 a2 h
    cases l2 with
    | nil => simp at hl
    | cons d q =>
      obtain ⟨hc, hr⟩ := digL_cons h1
      obtain ⟨hd, hq⟩ := digL_cons h2
      unfold valL
      exact ih q (by simpa using hl) hr hq _ _ (by omega)

theorem val_less : ∀ (l1 l2 : List UInt8), l1.length = l2.length → digL l1 = true → digL l2 = true → ∀ a : Nat, decide (valL a l1 < valL a l2) = Op.bytesLess l1 l2 := by
  intro l1
  induction l1 with
  | nil =>
    intro l2 hl _ _ a
    cases l2 with
    | nil =>
      have e : Op.bytesLess [] [] = false := rfl
      rw [e]
      exact decide_eq_false (Nat.lt_irrefl a)
    | cons _ _ => simp at hl
  | cons c r ih =>
    intro l2 hl h1 h2 a
    cases l2 with
    | nil => simp at hl
    | cons d q =>
      obtain ⟨hc, hr⟩ := digL_cons h1
      obtain ⟨hd, hq⟩ := digL_cons h2
      have hlen : r.length = q.length := by simpa using hl
      unfold Op.bytesLess valL
      rcases Nat.lt_trichotomy c.toNat d.toNat with h | h | h
      · have h3 : c < d := UInt8.lt_iff_toNat_lt.2 h
        rw [decide_eq_true (val_mono r q hlen hr hq _ _ (by omega)), decide_eq_true h3]; rfl
      · have h3 : c = d := UInt8.toNat_inj.mp h
        subst h3
        rw [ih q hlen hr hq]
        simp
      · have h3 : ¬ c < d := fun h' => by have := UInt8.lt_iff_toNat_lt.1 h'; omega
        have h4 : (c == d) = false := by
          rw [beq_eq_false_iff_ne]; intro e; subst e; omega
        have h5 := val_mono q r hlen.symm hq hr (a * 10 + (d.toNat - 48)) (a * 10 + (c.toNat - 48)) (by omega)
        rw [decide_eq_false (by omega), decide_eq_false h3, h4]; rfl

theorem bytesLess_irrefl_or : ∀ (l1 l2 : List UInt8), l1 ≠ l2 → Op.bytesLess l1 l2 = !Op.bytesLess l2 l1 := by
  intro l1
  induction l1 with
  | nil =>
    intro l2 h
    cases l2 with
    | nil => exact absurd rfl h
    | cons _ _ => rfl
  | cons c r ih =>
    intro l2 h
    cases l2 with
    | nil => rfl
    | cons d q =>
      unfold Op.bytesLess
      rcases Nat.lt_trichotomy c.toNat d.toNat with h1 | h1 | h1
      · have h3 : c < d := UInt8.lt_iff_toNat_lt.2 h1
        have h4 : ¬ d < c := fun h' => by have := UInt8.lt_iff_toNat_lt.1 h'; omega
        have h5 : (d == c) = false := by rw [beq_eq_false_iff_ne]; intro e; subst e; omega
        rw [decide_eq_true h3, decide_eq_false h4, h5]; rfl
      · have h3 : c = d := UInt8.toNat_inj.mp h1
        subst h3
        have h6 : r ≠ q := fun e => h (by rw [e])
        rw [ih q h6]
        simp
      · have h3 : d < c := UInt8.lt_iff_toNat_lt.2 h1
        have h4 : ¬ c < d := fun h' => by have := UInt8.lt_iff_toNat_lt.1 h'; omega
        have h5 : (c == d) = false := by rw [beq_eq_false_iff_ne]; intro e; subst e; omega
        rw [decide_eq_true h3, decide_eq_false h4, h5]; rfl

/-- The published rule of two identifiers. -/
def specPart (s o : ByteArray) : Int :=
  if s.toList == o.toList then 0
  else if (digB s && (digB o && !decide (s.size = o.size))) = true then segI s.size o.size
  else if digB s != digB o then (if digB s then -1 else 1)
  else if Op.bytesLess s.toList o.toList then -1 else 1

theorem digB_of (s : ByteArray) (hn : neB s = true) : digB s = digL s.data.toList := by
  unfold digB allB digL
  rw [hn, Bool.and_true]

theorem ne_data (s : ByteArray) (hn : neB s = true) : s.data.toList ≠ [] := by
  intro h
  unfold neB at hn
  rw [ByteArray.toList_eq, h] at hn
  cases hn

theorem bad_no (s : ByteArray) (hn : neB s = true) (hd : digB s = false) : badN s = true := by
  unfold badN
  split
  · rename_i u hu
    unfold Lib.parseUintB at hu
    rw [if_neg (ne_data s hn)] at hu
    have := parse_only _ _ _ _ hu
    rw [digB_of s hn, this] at hd
    cases hd
  · rfl
theorem bad_yes (s : ByteArray) (hn : neB s = true) (hd : digB s = true) (hl : s.size ≤ 19) : badN s = false ∧ numN s = valL 0 s.data.toList := by
  rw [digB_of s hn] at hd
  have h := parse_digits s.data.toList 0 0 hd (by decide) (by rw [str_len]; omega)
  have e : Lib.parseUintB 64 s.data.toList = .ok (valL 0 s.data.toList) := by
    unfold Lib.parseUintB
    rw [if_neg (ne_data s hn)]; exact h
  exact ⟨by unfold badN; rw [e], by unfold numN; rw [e]⟩

theorem val_bound (s : ByteArray) (hn : neB s = true) (hd : digB s = true) : valL 0 s.data.toList < 10 ^ s.size := by
  rw [digB_of s hn] at hd
  have := valL_lt s.data.toList 0 0 hd (by decide)
  rw [str_len, Nat.zero_add] at this
  exact this
theorem val_low (s : ByteArray) (hn : neB s = true) (hd : digB s = true) (hz : zeroB s = false) (hl : 1 < s.size) : 10 ^ (s.size - 1) ≤ valL 0 s.data.toList := by
  have h0 : byte0 s ≠ 48 := by
    intro h
    unfold zeroB at hz
    rw [hd, decide_eq_true hl, h] at hz
    cases hz
  rw [digB_of s hn] at hd
  have hlen := str_len s
  have hb : byte0 s = ((s.data.toList[0]'(by rw [str_len]; omega)).toNat : Int) := by
    unfold byte0
    rw [dif_pos (by omega)]
    rfl
  rw [hb] at h0
  cases hL : s.data.toList with
  | nil => rw [hL] at hlen; simp at hlen; omega
  | cons c r =>
    rw [hL] at hlen hd
    have h0' : ((c.toNat : Int)) ≠ 48 := by
      intro h; apply h0; rw [← h]; congr 2; simp [hL]
    obtain ⟨hc, hr⟩ := digL_cons hd
    unfold valL
    have := valL_ge r (0 * 10 + (c.toNat - 48)) 0 (by omega)
    rw [Nat.zero_add] at this
    rw [List.length_cons] at hlen
    rw [show s.size - 1 = r.length from by omega]
    exact this

/-- What is asked of an identifier. -/
def pieceOk (s : ByteArray) : Prop := neB s = true ∧ zeroB s = false ∧ smallOk s = true

theorem piece_size (s : ByteArray) (h : pieceOk s) (hd : digB s = true) : s.size ≤ 19 ∧ 1 ≤ s.size := by
  obtain ⟨h1, _, h3⟩ := h
  unfold smallOk at h3
  rw [hd] at h3
  have h4 : ¬ 19 < s.size := by simpa using h3
  have := ne_data s h1
  have h5 : s.data.toList.length ≠ 0 := fun h => this (List.eq_nil_of_length_eq_zero h)
  rw [str_len] at h5
  omega

theorem part_longer (s o : ByteArray) (hs : pieceOk s) (ho : pieceOk o) (d1 : digB s = true) (d2 : digB o = true) (h : s.size < o.size) : numN s < numN o := by
  have p1 := piece_size s hs d1
  have p2 := piece_size o ho d2
  rw [(bad_yes s hs.1 d1 p1.1).2, (bad_yes o ho.1 d2 p2.1).2]
  have a := val_bound s hs.1 d1
  have b := val_low o ho.1 d2 ho.2.1 (by omega)
  have c : (10 : Nat) ^ s.size ≤ 10 ^ (o.size - 1) := Nat.pow_le_pow_right (by decide) (by omega)
  omega

theorem partI_spec (s o : ByteArray) (hs : pieceOk s) (ho : pieceOk o) : partI s o = specPart s o := by
  unfold partI specPart
  have es : s.toList.isEmpty = false := by have := hs.1; unfold neB at this; simpa using this
  have eo : o.toList.isEmpty = false := by have := ho.1; unfold neB at this; simpa using this
  cases he : (s.toList == o.toList) with
  | true => rfl
  | false =>
    rw [es, eo]
    cases d1 : digB s with
    | true =>
      have p1 := piece_size s hs d1
      obtain ⟨b1, n1⟩ := bad_yes s hs.1 d1 p1.1
      cases d2 : digB o with
      | true =>
        have p2 := piece_size o ho d2
        obtain ⟨b2, n2⟩ := bad_yes o ho.1 d2 p2.1
        rw [b1, b2]
        rcases Nat.lt_trichotomy s.size o.size with h | h | h
        · have hv := part_longer s o hs ho d1 d2 h
          have : ¬ s.size = o.size := by omega
          simp [cmpNum, segI, this]
          rw [if_neg (by omega), if_pos (by omega)]
        · have hne : s.data.toList ≠ o.data.toList := by
            intro e; rw [ByteArray.toList_eq, ByteArray.toList_eq, e] at he; simp at he
          have hl : o.data.toList.length = s.data.toList.length := by rw [str_len, str_len, h]
          have q1 : digL s.data.toList = true := by rw [← digB_of s hs.1]; exact d1
          have q2 : digL o.data.toList = true := by rw [← digB_of o ho.1]; exact d2
          have hx := val_less o.data.toList s.data.toList hl q2 q1 0
          have hy := bytesLess_irrefl_or _ _ hne
          rw [n1, n2, hx]
          simp only [h, decide_true, Bool.not_true, Bool.and_false, bne_self_eq_false]
          rw [ByteArray.toList_eq, ByteArray.toList_eq, hy]
          cases Op.bytesLess o.data.toList s.data.toList <;> rfl
        · have hv := part_longer o s ho hs d2 d1 h
          have : ¬ s.size = o.size := by omega
          simp [cmpNum, segI, this]
          rw [if_pos (by omega), if_neg (by omega), if_pos (by omega)]
      | false =>
        rw [b1, bad_no o ho.1 d2]
        rfl
    | false =>
      cases d2 : digB o with
      | true =>
        have p2 := piece_size o ho d2
        rw [bad_no s hs.1 d1, (bad_yes o ho.1 d2 p2.1).1]
        rfl
      | false =>
        rw [bad_no s hs.1 d1, bad_no o ho.1 d2]
        simp only [Bool.false_and, bne_self_eq_false]
        cases Op.bytesLess s.toList o.toList <;> rfl

/-- The published rule of two prereleases, from place i on. -/
def specAt (A B : List ByteArray) : Nat → Nat → Int
  | 0, _ => segI A.length B.length
  | n + 1, i => if specPart (A.getD i noStr) (B.getD i noStr) = 0 then specAt A B n (i + 1) else specPart (A.getD i noStr) (B.getD i noStr)

theorem partI_none (o : ByteArray) (h : neB o = true) : partI noStr o = -1 ∧ partI o noStr = 1 := by
  have eo : o.toList.isEmpty = false := by unfold neB at h; simpa using h
  have en : noStr.toList = [] := by unfold noStr; first | rfl | decide | simp
  unfold partI
  rw [en, eo]
  cases ho : o.toList with
  | nil => rw [ho] at eo; cases eo
  | cons x xs => exact ⟨rfl, rfl⟩

theorem preAt (A B : List ByteArray) (hA : ∀ i, i < A.length → pieceOk (A.getD i noStr)) (hB : ∀ i, i < B.length → pieceOk (B.getD i noStr)) :
    ∀ (n i : Nat), i + n = min A.length B.length → partsAt A B (max A.length B.length - i) i = specAt A B n i := by
  intro n
  induction n with
  | zero =>
    intro i hi
    unfold specAt segI
    rcases Nat.lt_trichotomy A.length B.length with h | h | h
    · rw [if_pos (by omega), show max A.length B.length - i = (B.length - i - 1) + 1 from by omega, partsAt, getD_past A i (by omega), (partI_none _ (hB i (by omega)).1).1, if_neg (by decide)]
    · rw [if_neg (by omega), if_neg (by omega), show max A.length B.length - i = 0 from by omega]; rfl
    · rw [if_neg (by omega), if_pos (by omega), show max A.length B.length - i = (A.length - i - 1) + 1 from by omega, partsAt, getD_past B i (by omega), (partI_none _ (hA i (by omega)).1).2, if_neg (by decide)]
  | succ n ih =>
    intro i hi
    rw [show max A.length B.length - i = (max A.length B.length - (i + 1)) + 1 from by omega, partsAt, specAt, partI_spec _ _ (hA i (by omega)) (hB i (by omega)), ih (i + 1) (by omega)]

def specPre (s o : ByteArray) : Int := specAt (cutB 46 s) (cutB 46 o) (min (cutB 46 s).length (cutB 46 o).length) 0

theorem pieces_ok (s : ByteArray) (h1 : vpreB s = true) (h2 : smallB s = true) : ∀ i, i < (cutB 46 s).length → pieceOk ((cutB 46 s).getD i noStr) := by
  intro i hi
  unfold vpreB at h1
  unfold smallB at h2
  have e : (cutB 46 s).getD i noStr = (cutB 46 s)[i] := by simp [List.getD, hi]
  have m := List.getElem_mem hi
  have a := List.all_eq_true.1 h1 _ m
  have b := List.all_eq_true.1 h2 _ m
  rw [← e] at a b
  unfold preOk at a
  rw [Bool.and_eq_true] at a
  obtain ⟨a1, a2⟩ := a
  unfold vidB at a1
  rw [Bool.and_eq_true] at a1
  exact ⟨a1.2, by simpa using a2, b⟩

theorem pre_law (s o : ByteArray) (h1 : vpreB s = true) (h2 : smallB s = true) (h3 : vpreB o = true) (h4 : smallB o = true) : preI s o = specPre s o := by
  have := preAt (cutB 46 s) (cutB 46 o) (pieces_ok s h1 h2) (pieces_ok o h3 h4) (min (cutB 46 s).length (cutB 46 o).length) 0 (by omega)
  exact this
end Go.Proofs.YtjlbljajgkiniaaDoor
