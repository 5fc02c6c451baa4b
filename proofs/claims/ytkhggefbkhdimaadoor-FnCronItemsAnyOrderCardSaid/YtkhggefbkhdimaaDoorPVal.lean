/- A value of a cron field (names and numerals), and a field's list of items: plain. -/
import Derived.Test.YtkhggefbkhdimaaDoorPItm
import Derived.Test.YtkhggefbkhdimaaDoorPFld
namespace Go.Proofs.YtkhggefbkhdimaaDoor
open Go.Lib
set_option linter.unusedVariables false

def loK (k : Nat) : Nat := if k = 3 ∨ k = 4 then 1 else 0
def hiK (k : Nat) : Nat := if k = 2 then 23 else if k = 3 then 31 else if k = 4 then 12 else if k = 5 then 6 else 59
theorem loK_hiK (k : Nat) : loK k ≤ hiK k ∧ hiK k < 63 := by unfold loK hiK; split <;> split <;> (try split) <;> (try split) <;> (try split) <;> omega
/-- The names of a field, in capitals. -/
def namesU (k : Nat) : List (List Nat) :=
  if k = 4 then [[74, 65, 78], [70, 69, 66], [77, 65, 82], [65, 80, 82], [77, 65, 89], [74, 85, 78], [74, 85, 76], [65, 85, 71], [83, 69, 80], [79, 67, 84], [78, 79, 86], [68, 69, 67]]
  else if k = 5 then [[83, 85, 78], [77, 79, 78], [84, 85, 69], [87, 69, 68], [84, 72, 85], [70, 82, 73], [83, 65, 84]]
  else []
theorem names_up (k : Nat) : ∀ N ∈ namesU k, ∀ n ∈ N, 65 ≤ n ∧ n ≤ 90 := by
  unfold namesU
  split
  · decide
  · split
    · decide
    · intro N h; simp at h
theorem names_len (k : Nat) : (namesU k).length ≤ 12 := by unfold namesU; split; · decide
                                                           · split <;> decide
def upN (c : Nat) : Nat := if 97 ≤ c ∧ c ≤ 122 then c - 32 else c
def lowN (c : Nat) : Nat := if 65 ≤ c ∧ c ≤ 90 then c + 32 else c
def lowU (c : UInt8) : UInt8 := UInt8.ofNat (lowN c.toNat)
def lowName (N : List Nat) : List UInt8 := N.map (fun n => UInt8.ofNat (n + 32))
def asciiB (t : List UInt8) : Bool := t.all (fun c => decide (c.toNat < 128))
theorem up_low (c : UInt8) (n : Nat) (hc : c.toNat < 128) (hn : 65 ≤ n ∧ n ≤ 90) : (lowU c = UInt8.ofNat (n + 32)) ↔ upN c.toNat = n := by
  have e : (lowU c = UInt8.ofNat (n + 32)) ↔ lowN c.toNat = n + 32 := by
    constructor
    · intro h
      have h2 := congrArg UInt8.toNat h
      unfold lowU at h2
      rw [UInt8.toNat_ofNat', UInt8.toNat_ofNat', Nat.mod_eq_of_lt (by unfold lowN; split <;> omega), Nat.mod_eq_of_lt (by omega)] at h2
      exact h2
    · intro h; unfold lowU; rw [h]
  rw [e]
  unfold lowN upN
  split <;> split <;> omega
theorem low_names : ∀ (t : List UInt8) (N : List Nat), asciiB t = true → (∀ n ∈ N, 65 ≤ n ∧ n ≤ 90) → (t.map lowU = lowName N ↔ t.map (fun c => upN c.toNat) = N)
  | [], [], _, _ => by simp [lowName]
  | [], n :: N, _, _ => by simp [lowName]
  | c :: t, [], _, _ => by simp [lowName]
  | c :: t, n :: N, ha, hn => by
    unfold asciiB at ha
    rw [List.all_cons, Bool.and_eq_true, decide_eq_true_eq] at ha
    have h1 := up_low c n ha.1 (hn n (by simp))
    have h2 := low_names t N ha.2 (fun m hm => hn m (by simp [hm]))
    unfold lowName at h2 ⊢
    simp only [List.map_cons, List.cons.injEq]
    rw [h1, h2]
theorem ascii_of_name : ∀ (t : List UInt8) (N : List Nat), (∀ n ∈ N, 65 ≤ n ∧ n ≤ 90) → t.map (fun c => upN c.toNat) = N → asciiB t = true
  | [], N, _, _ => rfl
  | c :: t, [], _, h => by simp at h
  | c :: t, n :: N, hn, h => by
    simp only [List.map_cons, List.cons.injEq] at h
    have h1 := hn n (by simp)
    have h2 := ascii_of_name t N (fun m hm => hn m (by simp [hm])) h.2
    have h3 : c.toNat < 128 := by have := h.1; unfold upN at this; split at this <;> omega
    unfold asciiB at h2 ⊢
    rw [List.all_cons, h2, Bool.and_true, decide_eq_true_eq]
    exact h3
/-- The number of the name that a text is, in small or capital letters. -/
def nameIx (k : Nat) (t : List UInt8) : Option Nat := (namesU k).findIdx? (fun N => t.map (fun c => upN c.toNat) == N)
/-- The number of the name that a lowered text is. -/
def lookIx (k : Nat) (s : List UInt8) : Option Nat := (namesU k).findIdx? (fun N => s == lowName N)
theorem look_eq (k : Nat) (t : List UInt8) (ha : asciiB t = true) : lookIx k (t.map lowU) = nameIx k t := by
  unfold lookIx nameIx
  have h : ∀ (L : List (List Nat)), (∀ N ∈ L, ∀ n ∈ N, 65 ≤ n ∧ n ≤ 90) → L.findIdx? (fun N => t.map lowU == lowName N) = L.findIdx? (fun N => t.map (fun c => upN c.toNat) == N) := by
    intro L
    induction L with
    | nil => intro _; rfl
    | cons N L ih =>
      intro hL
      have e : (t.map lowU == lowName N) = (t.map (fun c => upN c.toNat) == N) := by
        rw [Bool.eq_iff_iff, beq_iff_eq, beq_iff_eq]
        exact low_names t N ha (hL N (by simp))
      rw [List.findIdx?_cons, List.findIdx?_cons, e, ih (fun M hM => hL M (by simp [hM]))]
  exact h _ (names_up k)
/-- spec.CronValue. -/
def valS (k : Nat) (t : List UInt8) : Nat × Nat := match nameIx k t with
  | some i => (i + loK k, 1)
  | none => if (k = 4 ∨ k = 5) ∧ asciiB t = false then (0, 2) else cnum t
/-- cron.parseIntOrName; low: the lowered text. -/
def valI (k : Nat) (low t : List UInt8) : Option Nat := match lookIx k low with
  | some i => some (i + loK k)
  | none => mustI t
theorem look_none (k : Nat) (h : ¬(k = 4 ∨ k = 5)) (s : List UInt8) : lookIx k s = none := by
  unfold lookIx namesU
  rw [if_neg (fun e => h (Or.inl e)), if_neg (fun e => h (Or.inr e))]
  rfl
theorem val_ok (k : Nat) (low t : List UInt8) (hl : asciiB t = true → low = t.map lowU) : ValOk (valS k t) (valI k low t) := by
  unfold valS valI
  cases hn : nameIx k t with
  | some i =>
    have hlt : i < (namesU k).length := (List.findIdx?_eq_some_iff_findIdx_eq.1 hn).1
    have ha : asciiB t = true := by
      unfold nameIx at hn
      obtain ⟨h1, h2, _⟩ := List.findIdx?_eq_some_iff_getElem.1 hn
      exact ascii_of_name t _ (names_up k _ (List.getElem_mem h1)) (by simpa using h2)
    rw [hl ha, look_eq k t ha, hn]
    dsimp only
    have h12 := names_len k
    have hlo : loK k ≤ 1 := by unfold loK; split <;> omega
    exact ⟨(by dsimp only; unfold hugeN; omega), (by dsimp only; omega), (fun h => by cases h), fun _ => ⟨fun _ => rfl, fun h => by dsimp only at h; unfold hugeN at h; omega⟩⟩
  | none =>
    dsimp only
    by_cases hf : (k = 4 ∨ k = 5) ∧ asciiB t = false
    · rw [if_pos hf]
      exact ⟨Nat.zero_le _, by decide, (fun h => by cases h), (fun h => by cases h)⟩
    · rw [if_neg hf]
      have hL : lookIx k low = none := by
        by_cases hk : k = 4 ∨ k = 5
        · have ha : asciiB t = true := by
            cases h : asciiB t with
            | true => rfl
            | false => exact absurd ⟨hk, h⟩ hf
          rw [hl ha, look_eq k t ha, hn]
        · exact look_none k hk low
      rw [hL]
      exact num_ok t

/-- The verdict over a field's pieces. -/
def fieldV (S : List UInt8 → Nat × Item) : List (List UInt8) → Nat → Nat
  | [], v => v
  | p :: ps, v => fieldV S ps (if p = [] then worseN v 2 else worseN v (S p).1)
/-- What cron.getField makes of the pieces. -/
def fieldI (R : List UInt8 → Option Item) : List (List UInt8) → Nat → Option Nat
  | [], b => some b
  | p :: ps, b => match R p with
    | none => none
    | some i => fieldI R ps (b ||| i.bits)
def fieldB (S : List UInt8 → Nat × Item) : List (List UInt8) → Nat → Nat
  | [], b => b
  | p :: ps, b => fieldB S ps (b ||| (S p).2.bits)
theorem field_zero (S : List UInt8 → Nat × Item) (hS : ∀ p, (S p).1 ≤ 2) : ∀ (ps : List (List UInt8)) (v : Nat), v ≤ 2 → (fieldV S ps v = 0 ↔ v = 0 ∨ ∃ p ∈ ps, p ≠ [] ∧ (S p).1 = 0)
  | [], v, _ => by simp [fieldV]
  | p :: ps, v, hv => by
    unfold fieldV
    by_cases hp : p = []
    · rw [if_pos hp, field_zero S hS ps _ (worse_le hv (by omega))]
      constructor
      · rintro (h | ⟨q, h1, h2⟩)
        · rcases worse_zero h with h | h
          · exact Or.inl h
          · omega
        · exact Or.inr ⟨q, by simp [h1], h2⟩
      · rintro (h | ⟨q, h1, h2⟩)
        · exact Or.inl (by unfold worseN; rw [if_pos (Or.inl h)])
        · rcases List.mem_cons.1 h1 with rfl | h1
          · exact absurd hp h2.1
          · exact Or.inr ⟨q, h1, h2⟩
    · rw [if_neg hp, field_zero S hS ps _ (worse_le hv (hS p))]
      constructor
      · rintro (h | ⟨q, h1, h2⟩)
        · rcases worse_zero h with h | h
          · exact Or.inl h
          · exact Or.inr ⟨p, by simp, hp, h⟩
        · exact Or.inr ⟨q, by simp [h1], h2⟩
      · rintro (h | ⟨q, h1, h2⟩)
        · exact Or.inl (by unfold worseN; rw [if_pos (Or.inl h)])
        · rcases List.mem_cons.1 h1 with rfl | h1
          · exact Or.inl (by unfold worseN; rw [if_pos (Or.inr h2.2)])
          · exact Or.inr ⟨q, h1, h2⟩
theorem field_one (S : List UInt8 → Nat × Item) (hS : ∀ p, (S p).1 ≤ 2) : ∀ (ps : List (List UInt8)) (v : Nat), v ≤ 2 → fieldV S ps v = 1 → v = 1 ∧ ∀ p ∈ ps, p ≠ [] ∧ (S p).1 = 1
  | [], v, _, h => ⟨h, fun p hp => by cases hp⟩
  | p :: ps, v, hv, h => by
    unfold fieldV at h
    by_cases hp : p = []
    · rw [if_pos hp] at h
      have := (field_one S hS ps _ (worse_le hv (by omega)) h).1
      have := (worse_one hv (by omega) this).2
      omega
    · rw [if_neg hp] at h
      obtain ⟨h1, h2⟩ := field_one S hS ps _ (worse_le hv (hS p)) h
      obtain ⟨w1, w2⟩ := worse_one hv (hS p) h1
      refine ⟨w1, fun q hq => ?_⟩
      rcases List.mem_cons.1 hq with rfl | hq
      · exact ⟨hp, w2⟩
      · exact h2 q hq
theorem field_none (R : List UInt8 → Option Item) : ∀ (ps : List (List UInt8)) (b : Nat) (p : List UInt8), p ∈ ps → R p = none → fieldI R ps b = none
  | q :: ps, b, p, hp, h => by
    unfold fieldI
    rcases List.mem_cons.1 hp with rfl | hp
    · rw [h]
    · cases R q with
      | none => rfl
      | some i => exact field_none R ps _ p hp h
theorem field_some (S : List UInt8 → Nat × Item) (R : List UInt8 → Option Item) : ∀ (ps : List (List UInt8)) (b : Nat), (∀ p ∈ ps, R p = some (S p).2) → fieldI R ps b = some (fieldB S ps b)
  | [], b, _ => rfl
  | p :: ps, b, h => by
    unfold fieldI fieldB
    rw [h p (by simp)]
    exact field_some S R ps _ (fun q hq => h q (by simp [hq]))
/-- A field that the reference calls wrong is refused; one that it calls fine is read as the union of its items. -/
theorem field_ok (S : List UInt8 → Nat × Item) (R : List UInt8 → Option Item) (hS : ∀ p, (S p).1 ≤ 2) (h0 : ∀ p, (S p).1 = 0 → R p = none) (h1 : ∀ p, (S p).1 = 1 → R p = some (S p).2) (ps : List (List UInt8)) :
    (fieldV S ps 1 = 0 → fieldI R (ps.filter (fun z => !z.isEmpty)) 0 = none) ∧ (fieldV S ps 1 = 1 → fieldI R (ps.filter (fun z => !z.isEmpty)) 0 = some (fieldB S ps 0)) := by
  refine ⟨fun h => ?_, fun h => ?_⟩
  · rcases (field_zero S hS ps 1 (by omega)).1 h with h | ⟨p, hp, hne, hz⟩
    · omega
    · exact field_none R _ 0 p (List.mem_filter.2 ⟨hp, by cases p with | nil => exact absurd rfl hne | cons _ _ => rfl⟩) (h0 p hz)
  · obtain ⟨_, h2⟩ := field_one S hS ps 1 (by omega) h
    have e : ps.filter (fun z => !z.isEmpty) = ps := List.filter_eq_self.2 (fun p hp => by cases p with | nil => exact absurd rfl (h2 _ hp).1 | cons _ _ => rfl)
    rw [e]
    exact field_some S R ps 0 (fun p hp => h1 p (h2 p hp).2)
end Go.Proofs.YtkhggefbkhdimaaDoor
