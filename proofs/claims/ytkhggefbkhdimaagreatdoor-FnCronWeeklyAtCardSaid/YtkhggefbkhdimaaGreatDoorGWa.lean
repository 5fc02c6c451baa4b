/- The schedule of "m h * * d": its next second. Rows that are there, regions with a frame; the calendar functions that WeeklyAt calls (parts of the cron-next cluster's texts). -/
import Derived.Test.YtkhggefbkhdimaaGreatDoorTnI
import Derived.Test.YtkhggefbkhdimaaGreatDoorFdR
import Derived.Test.YtkhggefbkhdimaaGreatDoorPWd
import Derived.Test.YtkhggefbkhdimaaGreatDoorPCr
import Derived.Handy
import Derived.Deep.MidRow
namespace Go.Proofs.YtkhggefbkhdimaaGreatDoor
set_option linter.unusedVariables false

/-- The schedule of minute m of hour h of day d of a week. -/
def weekS (m h d : Nat) : Sched := ⟨1, 2 ^ m, 2 ^ h, 9223372041149743102, 9223372036854783998, 2 ^ d⟩
set_option maxRecDepth 100000 in
theorem field0 : fieldJ 0 [48] = some 1 := by decide +kernel
set_option maxRecDepth 100000 in
theorem field3 : fieldJ 3 [42] = some 9223372041149743102 := by decide +kernel
set_option maxRecDepth 100000 in
theorem field4 : fieldJ 4 [42] = some 9223372036854783998 := by decide +kernel
set_option maxRecDepth 100000 in
theorem field1_all : (List.range 60).all (fun m => fieldJ 1 (Lib.decDigits m) == some (2 ^ m)) = true := by decide +kernel
set_option maxRecDepth 100000 in
theorem field2_all : (List.range 24).all (fun m => fieldJ 2 (Lib.decDigits m) == some (2 ^ m)) = true := by decide +kernel
set_option maxRecDepth 100000 in
theorem field5_all : (List.range 7).all (fun m => fieldJ 5 (Lib.decDigits m) == some (2 ^ m)) = true := by decide +kernel
theorem field1 (m : Nat) (h : m < 60) : fieldJ 1 (Lib.decDigits m) = some (2 ^ m) := by simpa using (List.all_eq_true.1 field1_all) m (List.mem_range.2 h)
theorem field2 (m : Nat) (h : m < 24) : fieldJ 2 (Lib.decDigits m) = some (2 ^ m) := by simpa using (List.all_eq_true.1 field2_all) m (List.mem_range.2 h)
theorem field5 (m : Nat) (h : m < 7) : fieldJ 5 (Lib.decDigits m) = some (2 ^ m) := by simpa using (List.all_eq_true.1 field5_all) m (List.mem_range.2 h)
theorem weekS_ok (m h d : Nat) (hm : m < 60) (hh : h < 24) (hd : d < 7) : (weekS m h d).ok := by
  have k : ∀ n, n < 60 → 2 ^ n < 18446744073709551616 := fun n hn => Nat.lt_of_lt_of_le (Nat.pow_lt_pow_right (by omega) (show n < 64 by omega)) (by decide)
  exact ⟨by show 1 < _; decide, k m hm, k h (by omega), by show 9223372041149743102 < _; decide, by show 9223372036854783998 < _; decide, k d (by omega)⟩
theorem bit_pow (m k : Nat) : (2 ^ m).testBit k = decide (m = k) := by
  rw [Nat.testBit_two_pow]
theorem dom_bits : (List.range 32).all (fun k => k == 0 || Nat.testBit 9223372041149743102 k) = true := by decide +kernel
theorem mo_bits : (List.range 13).all (fun k => k == 0 || Nat.testBit 9223372036854783998 k) = true := by decide +kernel
theorem dom_63 : Nat.testBit 9223372041149743102 63 = true := by decide +kernel
theorem one_bit (k : Nat) : Nat.testBit 1 k = decide (0 = k) := by have := bit_pow 0 k; simpa using this
theorem fits_week (m h d : Nat) (u : Int) : fits (weekS m h d) u = (decide ((((dayN u + 4) % 7).toNat) = d) && decide ((u % 86400 / 3600).toNat = h) && decide ((u % 3600 / 60).toNat = m) && decide ((u % 60).toNat = 0)) := by
  have h1 := month_bd (dayN u)
  have h2 := day_bd (dayN u)
  have e1 : Nat.testBit 9223372036854783998 (monthOf (dayN u)).toNat = true := by
    have := (List.all_eq_true.1 mo_bits) (monthOf (dayN u)).toNat (List.mem_range.2 (by omega))
    simp only [Bool.or_eq_true, beq_iff_eq] at this
    rcases this with h | h
    · omega
    · exact h
  have e2 : Nat.testBit 9223372041149743102 (dayOf (dayN u)).toNat = true := by
    have := (List.all_eq_true.1 dom_bits) (dayOf (dayN u)).toNat (List.mem_range.2 (by omega))
    simp only [Bool.or_eq_true, beq_iff_eq] at this
    rcases this with h | h
    · omega
    · exact h
  have k1 : moOK (weekS m h d) u = true := e1
  have k2 : dyOK (weekS m h d) u = decide ((((dayN u + 4) % 7).toNat) = d) := by
    show dayB 9223372041149743102 (2 ^ d) (dayOf (dayN u)).toNat ((dayN u + 4) % 7).toNat = _
    unfold dayB
    rw [dom_63, Bool.true_or, if_pos rfl, e2, Bool.true_and, bit_pow, decide_eq_decide]
    exact eq_comm
  have k3 : hoOK (weekS m h d) u = decide ((u % 86400 / 3600).toNat = h) := by
    show (2 ^ h).testBit _ = _
    rw [bit_pow, decide_eq_decide]; exact eq_comm
  have k4 : miOK (weekS m h d) u = decide ((u % 3600 / 60).toNat = m) := by
    show (2 ^ m).testBit _ = _
    rw [bit_pow, decide_eq_decide]; exact eq_comm
  have k5 : seOK (weekS m h d) u = decide ((u % 60).toNat = 0) := by
    show Nat.testBit 1 _ = _
    rw [one_bit, decide_eq_decide]; exact eq_comm
  unfold fits
  rw [k1, k2, k3, k4, k5, Bool.true_and]
/-- The second within a week, from its first Thursday on. -/
def restW (m h d : Nat) : Int := 86400 * (((d : Int) + 3) % 7) + 3600 * h + 60 * m
theorem week_mod (m h d : Nat) (hm : m < 60) (hh : h < 24) (hd : d < 7) (v : Int) (h0 : 0 ≤ v) : fits (weekS m h d) v = true ↔ (v - 62135596800) % 604800 = restW m h d := by
  rw [fits_week]
  simp only [Bool.and_eq_true, decide_eq_true_eq]
  unfold dayN restW
  constructor
  · rintro ⟨⟨⟨h1, h2⟩, h3⟩, h4⟩
    have a1 : (v / 86400 - 719162 + 4) % 7 = d := by omega
    have a2 : v % 86400 / 3600 = h := by omega
    have a3 : v % 3600 / 60 = m := by omega
    have a4 : v % 60 = 0 := by omega
    clear h1 h2 h3 h4
    have b1 : v % 86400 = 3600 * h + 60 * m := by omega
    clear a2 a3 a4
    omega
  · intro k
    have b1 : v % 86400 = 3600 * h + 60 * m := by omega
    have b2 : (v / 86400 - 719162 + 4) % 7 = d := by omega
    refine ⟨⟨⟨by omega, ?_⟩, ?_⟩, ?_⟩ <;> omega
theorem yr_week (u : Int) (k : Int) (hk : 0 ≤ k) (hk2 : k ≤ 604800) : yr (u + k) ≤ yr u + 1 := by
  have a := (isDate_u u).inYear
  have b := (isDate_u (u + k)).inYear
  rcases (show yr (u + k) ≤ yr u + 1 ∨ yr u + 1 + 1 ≤ yr (u + k) by omega) with h | h
  · exact h
  · have := ystart_mono h
    have e := ystart_succ (yr u + 1)
    have := leapN_01 (yr u + 1)
    unfold dayN at *; omega
theorem nextIs_only {s : Sched} {first lim r c : Int} (h : NextIs s first lim r) (h1 : first ≤ c) (h2 : fits s c = true) (h3 : yr c ≤ lim) (h4 : NoFit s first c) : r = c := by
  rcases h with ⟨a1, a2, a3, a4⟩ | ⟨rfl, a4⟩
  · rcases Int.lt_trichotomy r c with h | h | h
    · have := h4 r a1 h; rw [a2] at this; cases this
    · exact h
    · have := a4 c h1 h; rw [h2] at this; cases this
  · have := a4 c h1 h3; rw [h2] at this; cases this
/-- The second that comes. -/
def comeW (sec : Int) (m h d : Nat) : Int := sec + 1 + (restW m h d - sec - 1) % 604800
theorem week_next (m h d : Nat) (hm : m < 60) (hh : h < 24) (hd : d < 7) (sec : Int) (h0 : -62135596800 ≤ sec) (first Y0 r : Int) (hf : first = sec + 62135596800 + 1) (hy : yr first = Y0) (hr : NextIs (weekS m h d) first (Y0 + 5) r) : r = comeW sec m h d + 62135596800 := by
  have hw : 0 ≤ restW m h d ∧ restW m h d < 604800 := by unfold restW; omega
  have e1 : comeW sec m h d + 62135596800 = first + (restW m h d - sec - 1) % 604800 := by unfold comeW; omega
  have e2 := Int.emod_nonneg (restW m h d - sec - 1) (show (604800 : Int) ≠ 0 by decide)
  have e3 := Int.emod_lt_of_pos (restW m h d - sec - 1) (show (0 : Int) < 604800 by decide)
  refine nextIs_only hr (by omega) ((week_mod m h d hm hh hd _ (by omega)).2 (by omega)) ?_ ?_
  · rw [e1]
    have := yr_week first _ e2 (by omega)
    omega
  · intro v k1 k2
    cases hv : fits (weekS m h d) v with
    | false => rfl
    | true =>
      have := (week_mod m h d hm hh hd v (by omega)).1 hv
      omega
theorem words_put (x : List UInt8) (hx : x ≠ []) (hb : ∀ c ∈ x, blankB c = false) (r : List UInt8) : wordsA [] (x ++ 32 :: r) = x :: wordsA [] r := by
  rw [words_more x hb _ [] (32 :: r) rfl, List.nil_append, words_blank x 32 r hx (by decide)]
theorem words_last (x : List UInt8) (hx : x ≠ []) (hb : ∀ c ∈ x, blankB c = false) : wordsA [] x = [x] := by
  rw [words_more x hb x [] [] (by simp), List.nil_append, wordsA, if_neg hx]
theorem dec_nb (u : Nat) : ∀ c ∈ Lib.decDigits u, blankB c = false := fun c hc => by
  have := dec_digits u c hc
  unfold blankB
  simp only [Bool.or_eq_false_iff, Bool.and_eq_false_iff, decide_eq_false_iff_not]
  omega
/-- The text of minute m, hour h, day d. -/
def weekT (m h d : Nat) : List UInt8 := Lib.decDigits m ++ [32] ++ Lib.decDigits h ++ [32, 42, 32, 42, 32] ++ Lib.decDigits d
theorem week_words (m h d : Nat) : wordsL (weekT m h d) = [Lib.decDigits m, Lib.decDigits h, [42], [42], Lib.decDigits d] := by
  have e : weekT m h d = Lib.decDigits m ++ 32 :: (Lib.decDigits h ++ 32 :: ([42] ++ 32 :: ([42] ++ 32 :: Lib.decDigits d))) := by unfold weekT; simp
  have h42 : ∀ c ∈ ([42] : List UInt8), blankB c = false := by intro c hc; rw [List.mem_singleton] at hc; subst hc; decide
  unfold wordsL
  rw [e, words_put _ (dec_ne _) (dec_nb _), words_put _ (dec_ne _) (dec_nb _), words_put _ (by simp) h42, words_put _ (by simp) h42, words_last _ (dec_ne _) (dec_nb _)]
end Go.Proofs.YtkhggefbkhdimaaGreatDoor

namespace Go.Proofs.YtkhggefbkhdimaaGreatDoor
open Go.RowKit Go.Shelf
set_option linter.unusedVariables false
set_option linter.unusedSimpArgs false

theorem fd_eq (a b : Int) (hb : 0 < b) : (a.tmod b < 0 → a / b = a.tdiv b - 1) ∧ (¬ a.tmod b < 0 → a / b = a.tdiv b) := by
  rw [Int.tdiv_eq_ediv, Int.tmod_eq_emod]
  have h0 := Int.emod_nonneg a (show b ≠ 0 by omega)
  have h1 := Int.emod_lt_of_pos a hb
  by_cases h : 0 ≤ a ∨ b ∣ a
  · rw [if_pos h, if_pos h]; omega
  · rw [if_neg h, if_neg h, Int.sign_eq_one_of_pos hb]; omega
set_option maxHeartbeats 400000 in
theorem floorDiv_any (a b : Int) (h0 : 0 < b) (h1 : b ≤ 1000000) (h2 : -1000000000000000 < a) (h3 : a < 1000000000000000) (w : World) :
    Calls Tryz.prog 92 #[.int .i64 a, .int .i64 b] w fun e w' => e = .returned (.int .i64 (a / b)) ∧ w = w' := by
  have HK := Lib.hid (fd_eq a b h0)
  have hq : -1000000000000000 ≤ a.tdiv b ∧ a.tdiv b ≤ 1000000000000000 := by
    have k := Int.natAbs_tdiv_le_natAbs a b
    omega
  by_cases h : a.tmod b < 0
  · go_enter Tryz.func92, Tryz.ntmps92
    go_wp2_with fail
    go_ret
    exact ⟨ret_i64 (HK.out.1 h).symm, rfl⟩
  · go_enter Tryz.func92, Tryz.ntmps92
    go_wp2_with fail
    go_ret
    exact ⟨ret_i64 (HK.out.2 h).symm, rfl⟩

set_option maxHeartbeats 400000 in
theorem cronUTC_any (w : World) :
    Calls Tryz.prog 21 #[] w fun e w' => e = .returned (.agg #[.slice none 0 0, .slice none 0 0, .slice none 0 0, .slice none 0 0]) ∧ Below w.heap.size w w' := by
  go_enter Tryz.func21, Tryz.ntmps21
  go_wp2_with fail
  refine bodyPost_ret (v := .agg #[.slice none 0 0, .slice none 0 0, .slice none 0 0, .slice none 0 0]) (by simp [results, Tryz.results21, go_sem]) rfl ⟨rfl, ?_⟩
  exact (by repeat (first | (with_reducible assumption) | (with_reducible exact Below.refl _ _) | (with_reducible refine Below.setCell ?_ (by first | omega | (simp <;> omega)) _) | refine below_drewN ?_ _ | refine Below.drew ?_ | refine Below.alloc ?_ (by first | omega | (simp <;> omega)) _))

def Rws (w W : World) (L : List (Nat × TypeId × Array Value)) : Prop := (∀ r ∈ L, RowAt W r.1 r.2.1 r.2.2) ∧ Below w.heap.size w W
theorem Rws.at0 {w W : World} {g : Nat} {t : TypeId} {cs : Array Value} {L : List (Nat × TypeId × Array Value)} (h : Rws w W ((g, t, cs) :: L)) : RowAt W g t cs := h.1 (g, t, cs) (List.mem_cons_self ..)
theorem Rws.tail {w W : World} {r : Nat × TypeId × Array Value} {L : List (Nat × TypeId × Array Value)} (h : Rws w W (r :: L)) : Rws w W L := ⟨fun x hx => h.1 x (List.mem_cons_of_mem _ hx), h.2⟩
theorem Rws.at1 {w W : World} {g : Nat} {t : TypeId} {cs : Array Value} {r} {L : List (Nat × TypeId × Array Value)} (h : Rws w W (r :: (g, t, cs) :: L)) : RowAt W g t cs := h.tail.at0
theorem Rws.at2 {w W : World} {g : Nat} {t : TypeId} {cs : Array Value} {r q} {L : List (Nat × TypeId × Array Value)} (h : Rws w W (r :: q :: (g, t, cs) :: L)) : RowAt W g t cs := h.tail.tail.at0
theorem Rws.at3 {w W : World} {g : Nat} {t : TypeId} {cs : Array Value} {r q x} {L : List (Nat × TypeId × Array Value)} (h : Rws w W (r :: q :: x :: (g, t, cs) :: L)) : RowAt W g t cs := h.tail.tail.tail.at0
theorem Rws.lt {w W : World} {L : List (Nat × TypeId × Array Value)} (h : Rws w W L) : ∀ r ∈ L, r.1 < W.heap.size := fun r hr => (h.1 r hr).lt
theorem Rws.below {w W W' : World} {L : List (Nat × TypeId × Array Value)} (h : Rws w W L) (hb : Below W.heap.size W W') : Rws w W' L := ⟨fun r hr => (h.1 r hr).below hb, h.2.trans (hb.mono h.2.size)⟩
theorem Rws.drew {w W : World} {L : List (Nat × TypeId × Array Value)} (h : Rws w W L) : Rws w W.drew L := ⟨fun r hr => (h.1 r hr).drew, h.2.drew⟩
theorem Rws.alloc {w W : World} {L : List (Nat × TypeId × Array Value)} (h : Rws w W L) (p : Nat) (hp : p = W.heap.size) (cs : Array Value) (t : TypeId) : Rws w (W.alloc (.cells cs t)) ((p, t, cs) :: L) := by
  refine ⟨fun r hr => ?_, h.2.alloc h.2.size _⟩
  rcases List.mem_cons.1 hr with rfl | hr
  · exact rowAt_last W _ _ _ hp
  · exact (h.1 r hr).alloc _
theorem Rws.set2 {w W : World} {p : Nat} {t : TypeId} {a b : Value} {L : List (Nat × TypeId × Array Value)} (h : Rws w W ((p, t, #[a, b]) :: L)) (hl : ∀ r ∈ L, r.1 < p) (hp : w.heap.size ≤ p) (a' b' : Value) :
    Rws w ((W.setCell ⟨p, 0, none⟩ a').setCell ⟨p, 1, none⟩ b') ((p, t, #[a', b']) :: L) := by
  refine ⟨fun r hr => ?_, (h.2.setCell (p := ⟨p, 0, none⟩) hp a').setCell (p := ⟨p, 1, none⟩) hp b'⟩
  rcases List.mem_cons.1 hr with rfl | hr
  · exact heap_setCell_same _ p 1 _ _ _ (heap_setCell_same _ p 0 _ _ _ h.at0)
  · have hne : r.1 ≠ p := by have := hl r hr; omega
    show RowAt _ _ _ _
    unfold RowAt
    rw [Below.heap_setCell _ _ _ _ hne, Below.heap_setCell _ _ _ _ hne]
    exact h.1 r (List.mem_cons_of_mem _ hr)
/-- Slots filled one after the other. -/
def puts (a : Act) : List (Tmp × Value) → Act
  | [] => a
  | (i, v) :: l => puts (a.put (some i) v) l
def RegX {α : Type} (A : α → Act) (F : α → World → Prop) : Exit → Act → World → Prop := fun e a w => e = .normal ∧ ∃ x, a = A x ∧ F x w
theorem reg_framex {α : Type} {P : Program} {c : Code} {Q' : Exit → Act → World → Prop} {a : Act} {w : World} (A : α → List (Tmp × Value)) (F : α → World → Prop)
    (h1 : c.wp P (RegX (fun x => puts a (A x)) F) a w) (h2 : ∀ x w', F x w' → Q' .normal (puts a (A x)) w') : c.wp P Q' a w :=
  Code.wp_mono (fun e a' w' ⟨he, x, ha, hf⟩ => by subst he; subst ha; exact h2 x w' hf) h1
theorem kHeld {S : World → Prop} {K : Act → World → Prop} {R : Act → World → Prop} (h : ∀ a w, S w → (S w → R a w) → K a w) {a : Act} {W : World} (hs : S W) (hr : S W → R a W) : K a W := h a W hs hr

def goodB (sec ns : Int) : Bool := decide (-62135596800 ≤ sec) && (decide (sec ≤ 253402300799) && (decide (0 ≤ ns) && decide (ns < 1000000000)))
set_option maxHeartbeats 2000000 in
theorem good_any (sec ns : Int) (w : World) :
    Calls Tryz.prog 18 #[.agg #[.int .i64 sec, .int .i64 ns]] w fun e w' => e = .returned (.bool (goodB sec ns)) ∧ Below w.heap.size w w' := by
  unfold goodB
  by_cases h1 : -62135596800 ≤ sec
  · by_cases h2 : sec ≤ 253402300799
    · by_cases h3 : 0 ≤ ns
      · by_cases h4 : ns < 1000000000
        all_goals
          go_enter Tryz.func18, Tryz.ntmps18
          go_wp2_with fail
          go_ret
          exact ⟨ret_bool (by simp [h1, h2, h3, h4]), (by repeat (first | (with_reducible assumption) | (with_reducible exact Below.refl _ _) | (with_reducible refine Below.setCell ?_ (by first | omega | (simp <;> omega)) _) | refine below_drewN ?_ _ | refine Below.drew ?_ | refine Below.alloc ?_ (by first | omega | (simp <;> omega)) _))⟩
      · have h3' : ns < 0 := by omega
        go_enter Tryz.func18, Tryz.ntmps18
        go_wp2_with fail
        go_ret
        exact ⟨ret_bool (by simp [h1, h2, h3]; omega), (by repeat (first | (with_reducible assumption) | (with_reducible exact Below.refl _ _) | (with_reducible refine Below.setCell ?_ (by first | omega | (simp <;> omega)) _) | refine below_drewN ?_ _ | refine Below.drew ?_ | refine Below.alloc ?_ (by first | omega | (simp <;> omega)) _))⟩
    · have h2' : 253402300799 < sec := by omega
      go_enter Tryz.func18, Tryz.ntmps18
      go_wp2_with fail
      go_ret
      exact ⟨ret_bool (by simp [h1, h2]; omega), (by repeat (first | (with_reducible assumption) | (with_reducible exact Below.refl _ _) | (with_reducible refine Below.setCell ?_ (by first | omega | (simp <;> omega)) _) | refine below_drewN ?_ _ | refine Below.drew ?_ | refine Below.alloc ?_ (by first | omega | (simp <;> omega)) _))⟩
  · have h1' : sec < -62135596800 := by omega
    go_enter Tryz.func18, Tryz.ntmps18
    go_wp2_with fail
    go_ret
    exact ⟨ret_bool (by simp [h1]; omega), (by repeat (first | (with_reducible assumption) | (with_reducible exact Below.refl _ _) | (with_reducible refine Below.setCell ?_ (by first | omega | (simp <;> omega)) _) | refine below_drewN ?_ _ | refine Below.drew ?_ | refine Below.alloc ?_ (by first | omega | (simp <;> omega)) _))⟩

theorem whole_any (sec : Int) (w : World) :
    Calls Tryz.prog 22 #[.int .i64 sec] w fun e w' => e = .returned (.agg #[.int .i64 sec, .int .i64 0]) ∧ Below w.heap.size w w' := by
  go_enter Tryz.func22, Tryz.ntmps22
  go_wp2_with fail
  refine bodyPost_ret (v := .agg #[.int .i64 sec, .int .i64 0]) (by simp [results, Tryz.results22, go_sem]) rfl ⟨rfl, ?_⟩
  exact (by repeat (first | (with_reducible assumption) | (with_reducible exact Below.refl _ _) | (with_reducible refine Below.setCell ?_ (by first | omega | (simp <;> omega)) _) | refine below_drewN ?_ _ | refine Below.drew ?_ | refine Below.alloc ?_ (by first | omega | (simp <;> omega)) _))

theorem good_parts {ev : Bool} {sec ns : Int} (h : (!ev && goodB sec ns) = true) : ev = false ∧ -62135596800 ≤ sec ∧ sec ≤ 253402300799 ∧ 0 ≤ ns ∧ ns < 1000000000 := by
  unfold goodB at h
  simp at h
  exact h
theorem first_year (sec : Int) (h0 : -62135596800 ≤ sec) (h1 : sec ≤ 253402300799) : 1 ≤ yearOf (dayN (sec + 62135596800 + 1)) ∧ yearOf (dayN (sec + 62135596800 + 1)) ≤ 10000 := by
  have a := (isDate_of (dayN (sec + 62135596800 + 1))).inYear
  unfold ystart at a
  unfold dayN at *
  omega
theorem rws0 (w : World) : Rws w w [] := ⟨fun r hr => (by cases hr), Below.refl _ _⟩
theorem Rws.swap {w W : World} {a b : Nat × TypeId × Array Value} {L : List (Nat × TypeId × Array Value)} (h : Rws w W (a :: b :: L)) : Rws w W (b :: a :: L) :=
  ⟨fun r hr => h.1 r (by simp only [List.mem_cons] at hr ⊢; rcases hr with h | h | h <;> simp [h]), h.2⟩
theorem Rws.set1 {w W : World} {p : Nat} {t : TypeId} {cs : Array Value} {L : List (Nat × TypeId × Array Value)} (h : Rws w W ((p, t, cs) :: L)) (hl : ∀ r ∈ L, r.1 ≠ p) (hp : w.heap.size ≤ p) (i : Nat) (b : Value) :
    Rws w (W.setCell ⟨p, i, none⟩ b) ((p, t, cs.setIfInBounds i b) :: L) := by
  refine ⟨fun r hr => ?_, h.2.setCell (p := ⟨p, i, none⟩) hp b⟩
  rcases List.mem_cons.1 hr with rfl | hr
  · exact heap_setCell_same _ p i _ _ _ h.at0
  · have hne : r.1 ≠ p := hl r hr
    show RowAt _ _ _ _
    unfold RowAt
    rw [Below.heap_setCell _ _ _ _ hne]
    exact h.1 r (List.mem_cons_of_mem _ hr)
theorem Rws.set8 {w W : World} {p : Nat} {t : TypeId} {a0 a1 a2 a3 a4 a5 a6 a7 : Value} {L : List (Nat × TypeId × Array Value)} (h : Rws w W ((p, t, #[a0, a1, a2, a3, a4, a5, a6, a7]) :: L)) (hl : ∀ r ∈ L, r.1 ≠ p) (hp : w.heap.size ≤ p) (b0 b1 b2 b3 b4 b5 b6 b7 : Value) :
    Rws w ((((((((W.setCell ⟨p, 0, none⟩ b0).setCell ⟨p, 1, none⟩ b1).setCell ⟨p, 2, none⟩ b2).setCell ⟨p, 3, none⟩ b3).setCell ⟨p, 4, none⟩ b4).setCell ⟨p, 5, none⟩ b5).setCell ⟨p, 6, none⟩ b6).setCell ⟨p, 7, none⟩ b7) ((p, t, #[b0, b1, b2, b3, b4, b5, b6, b7]) :: L) := by
  have k := (((((((h.set1 hl hp 0 b0).set1 hl hp 1 b1).set1 hl hp 2 b2).set1 hl hp 3 b3).set1 hl hp 4 b4).set1 hl hp 5 b5).set1 hl hp 6 b6).set1 hl hp 7 b7
  simpa only [List.setIfInBounds_toArray, List.set_cons_zero, List.set_cons_succ] using k

set_option maxHeartbeats 400000 in
theorem Rws.put8 {w W : World} {p : Nat} {t : TypeId} {a0 a1 a2 a3 a4 a5 a6 a7 : Value} {L : List (Nat × TypeId × Array Value)} (h : Rws w W ((p, t, #[a0, a1, a2, a3, a4, a5, a6, a7]) :: L)) (hl : ∀ r ∈ L, r.1 ≠ p) (hp : w.heap.size ≤ p) (b0 b1 b2 b3 b4 b5 b6 b7 : Value) :
    Rws w (W.setCells p 0 [b0, b1, b2, b3, b4, b5, b6, b7]) ((p, t, #[b0, b1, b2, b3, b4, b5, b6, b7]) :: L) := h.set8 hl hp b0 b1 b2 b3 b4 b5 b6 b7
theorem RowAt.thereAll {w : World} {g : Nat} {t : TypeId} {cs : Array Value} (h : RowAt w g t cs) : w.there g 0 cs.size := fun j hj => ⟨by rw [show 0 + j = j by omega, h.cell j]; simp [hj], h.free _⟩
theorem infoSch : (Tryz.prog.info? 24).map (·.size) = some 8 := by kernel_rfl
theorem sch_one (b : Bool) (d a0 a1 a2 a3 a4 a5 : Int) : (#[.bool b, .int .i64 d, .int .u64 a0, .int .u64 a1, .int .u64 a2, .int .u64 a3, .int .u64 a4, .int .u64 a5] : Array Value).all (·.oneCell') = true := all_oneCell_toArray (by intro v hv; simp at hv; rcases hv with rfl | rfl | rfl | rfl | rfl | rfl | rfl | rfl <;> rfl)
/-- spec.floorMod by a week, spec.CronComing. -/
theorem floorModW (a : Int) (h2 : -1000000000000 < a) (h3 : a < 1000000000000) (w : World) :
    Calls Tryz.prog 51 #[.int .i64 a, .int .i64 604800] w fun e w' => e = .returned (.int .i64 (a % 604800)) ∧ w = w' := by
  have HF := Lib.hid (fun w => floorDiv_any a 604800 (by decide) (by decide) (by omega) (by omega) w)
  obtain ⟨q, hq⟩ : ∃ q, a / 604800 = q := ⟨_, rfl⟩
  have hb : -1100000000000 < 604800 * q ∧ 604800 * q < 1100000000000 := by omega
  have HM : Hid (a - 604800 * q = a % 604800) := Lib.hid (by omega)
  have hm : 0 ≤ a - 604800 * q ∧ a - 604800 * q < 604800 := by omega
  rw [hq] at HF
  clear hq
  go_enter Tryz.func51, Tryz.ntmps51
  go_wp2_with fail
  refine (HF.out _).mono ?_
  rintro e w1 ⟨rfl, rfl⟩
  go_wp2_with fail
  go_ret
  exact ⟨ret_i64 HM.out, rfl⟩
theorem comingW (sec rest : Int) (h2 : -100000000000 < sec) (h3 : sec < 300000000000) (h4 : 0 ≤ rest) (h5 : rest < 604800) (w : World) :
    Calls Tryz.prog 23 #[.int .i64 sec, .int .i64 604800, .int .i64 rest] w fun e w' => e = .returned (.int .i64 (sec + 1 + (rest - sec - 1) % 604800)) ∧ w = w' := by
  have HF := Lib.hid (fun w => floorModW (rest - sec - 1) (by omega) (by omega) w)
  have hb : 0 ≤ (rest - sec - 1) % 604800 ∧ (rest - sec - 1) % 604800 < 604800 := by omega
  obtain ⟨q, hq⟩ : ∃ q, (rest - sec - 1) % 604800 = q := ⟨_, rfl⟩
  rw [hq] at HF hb ⊢
  clear hq
  go_enter Tryz.func23, Tryz.ntmps23
  go_wp2_with fail
  refine (HF.out _).mono ?_
  rintro e w1 ⟨rfl, rfl⟩
  go_wp2_with fail
  go_ret
  exact ⟨rfl, rfl⟩
/-- impl.Next of a weekly schedule. -/
theorem weekNext_any (m h d : Nat) (hm : m < 60) (hh : h < 24) (hd : d < 7) (dl sec : Int) (ns : Nat) (hn : ns < 1000000000) (h0 : -62135596800 ≤ sec) (h1 : sec ≤ 253402300799) (w : World) :
    Calls Tryz.prog 20 #[.agg #[.bool false, .int .i64 dl, .int .u64 (weekS m h d).se, .int .u64 (weekS m h d).mi, .int .u64 (weekS m h d).ho, .int .u64 (weekS m h d).dom, .int .u64 (weekS m h d).mo, .int .u64 (weekS m h d).dow], .agg #[.int .i64 sec, .int .i64 ns], .agg #[.slice none 0 0, .slice none 0 0, .slice none 0 0, .slice none 0 0]] w fun e w' => e = .returned (.tuple #[.agg #[.int .i64 (comeW sec m h d), .int .i64 0], .bool true]) ∧ Below w.heap.size w w' := by
  have yb := first_year sec h0 h1
  refine (implNext_any (weekS m h d) (Lib.hid (weekS_ok m h d hm hh hd)) dl sec ns hn h0 h1 (sec + 62135596800 + 1) _ (Lib.hid rfl) (Lib.hid rfl) ⟨yb.1, yb.2⟩ w).mono ?_
  rintro e w' ⟨r, hr, rfl, hb⟩
  have hrr := week_next m h d hm hh hd sec h0 _ _ r rfl rfl hr.out
  have hc : sec + 1 ≤ comeW sec m h d := by unfold comeW; omega
  have e1 : ansX r = comeW sec m h d := by unfold ansX; rw [if_neg (by omega)]; omega
  have e2 : ansB r = true := decide_eq_true (by omega)
  exact ⟨by rw [e1, e2], hb⟩
end Go.Proofs.YtkhggefbkhdimaaGreatDoor
