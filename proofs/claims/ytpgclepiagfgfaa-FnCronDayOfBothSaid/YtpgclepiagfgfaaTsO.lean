/- Least seconds are one; CronGood, cronCase, CronBefore, cronNone. -/
import Derived.Test.YtpgclepiagfgfaaTsN
namespace Go.Proofs.Ytpgclepiagfgfaa
open Go.RowKit
set_option linter.unusedVariables false
set_option linter.unusedSimpArgs false

theorem least_nat (P : Nat → Prop) (h : ∃ n, P n) : ∃ n, P n ∧ ∀ m, m < n → ¬ P m := by
  obtain ⟨n, hn⟩ := h
  induction n using Nat.strongRecOn with
  | _ n ih =>
    by_cases hm : ∃ m, m < n ∧ P m
    · obtain ⟨m, h1, h2⟩ := hm; exact ih m h1 h2
    · exact ⟨n, hn, fun m h1 h2 => hm ⟨m, h1, h2⟩⟩
theorem nextIs_exists (s : Sched) (first lim : Int) : ∃ r, NextIs s first lim r := by
  by_cases h : ∃ n : Nat, yr (first + n) ≤ lim ∧ fits s (first + n) = true
  · obtain ⟨n, ⟨h1, h2⟩, h3⟩ := least_nat _ h
    refine ⟨first + n, .inl ⟨by omega, h2, h1, fun v k1 k2 => ?_⟩⟩
    have e : first + ((v - first).toNat : Int) = v := by omega
    have k := h3 (v - first).toNat (by omega)
    rw [e] at k
    cases hf : fits s v with
    | false => rfl
    | true => exact absurd ⟨Int.le_trans (yr_mono (by omega)) h1, hf⟩ k
  · refine ⟨0, .inr ⟨rfl, fun v k1 k2 => ?_⟩⟩
    cases hf : fits s v with
    | false => rfl
    | true => exact absurd ⟨(v - first).toNat, by rw [show first + ((v - first).toNat : Int) = v by omega]; exact ⟨k2, hf⟩⟩ h
theorem NextIs.unique {s : Sched} {first lim a b : Int} (h : NextIs s first lim a) (k : NextIs s first lim b) : a = b := by
  rcases h with ⟨a1, a2, a3, a4⟩ | ⟨rfl, a4⟩
  · rcases k with ⟨b1, b2, b3, b4⟩ | ⟨rfl, b4⟩
    · rcases Int.lt_trichotomy a b with h | h | h
      · have := b4 a a1 h; rw [a2] at this; cases this
      · exact h
      · have := a4 b b1 h; rw [b2] at this; cases this
    · have := b4 a a1 a3; rw [a2] at this; cases this
  · rcases k with ⟨b1, b2, b3, b4⟩ | ⟨rfl, b4⟩
    · have := a4 b b1 b3; rw [b2] at this; cases this
    · rfl

/-- Rows that are there, and nothing below them has changed. -/
def Rws (w W : World) (L : List (Nat × TypeId × Array Value)) : Prop := (∀ r ∈ L, RowAt W r.1 r.2.1 r.2.2) ∧ Below w.heap.size w W
theorem Rws.at0 {w W : World} {g : Nat} {t : TypeId} {cs : Array Value} {L : List (Nat × TypeId × Array Value)} (h : Rws w W ((g, t, cs) :: L)) : RowAt W g t cs := h.1 (g, t, cs) (List.mem_cons_self ..)
theorem Rws.tail {w W : World} {r : Nat × TypeId × Array Value} {L : List (Nat × TypeId × Array Value)} (h : Rws w W (r :: L)) : Rws w W L := ⟨fun x hx => h.1 x (List.mem_cons_of_mem _ hx), h.2⟩
theorem Rws.at1 {w W : World} {g : Nat} {t : TypeId} {cs : Array Value} {r} {L : List (Nat × TypeId × Array Value)} (h : Rws w W (r :: (g, t, cs) :: L)) : RowAt W g t cs := h.tail.at0
theorem Rws.at2 {w W : World} {g : Nat} {t : TypeId} {cs : Array Value} {r q} {L : List (Nat × TypeId × Array Value)} (h : Rws w W (r :: q :: (g, t, cs) :: L)) : RowAt W g t cs := h.tail.tail.at0
theorem Rws.at3 {w W : World} {g : Nat} {t : TypeId} {cs : Array Value} {r q x} {L : List (Nat × TypeId × Array Value)} (h : Rws w W (r :: q :: x :: (g, t, cs) :: L)) : RowAt W g t cs := h.tail.tail.tail.at0
theorem Rws.lt {w W : World} {L : List (Nat × TypeId × Array Value)} (h : Rws w W L) : ∀ r ∈ L, r.1 < W.heap.size := fun r hr => (h.1 r hr).lt
theorem Rws.below {w W W' : World} {L : List (Nat × TypeId × Array Value)} (h : Rws w W L) (hb : Below W.heap.size W W') : Rws w W' L := ⟨fun r hr => (h.1 r hr).below hb, h.2.trans (hb.mono h.2.size)⟩
theorem Rws.drew {w W : World} {L : List (Nat × TypeId × Array Value)} (h : Rws w W L) : Rws w W.drew L := ⟨fun r hr => (h.1 r hr).drew, h.2.drew⟩
theorem Rws.alloc {w W : World} {L : List (Nat × TypeId × Array Value)} (h : Rws w W L) (p : Nat) (hp : p = W.heap.size) (cs : Array Value) (t : TypeId) : Rws w (W.alloc (.cells cs t)) ((p, t, cs) :: L) := by
  refine ⟨fun r hr => ?_, h.2.alloc h.2.size _⟩
  rcases List.mem_cons.1 hr with rfl | hr
  · exact rowAt_last W _ _ _ hp
  · exact (h.1 r hr).alloc _
theorem Rws.set2 {w W : World} {p : Nat} {t : TypeId} {a b : Value} {L : List (Nat × TypeId × Array Value)} (h : Rws w W ((p, t, #[a, b]) :: L)) (hl : ∀ r ∈ L, r.1 < p) (hp : w.heap.size ≤ p) (a' b' : Value) :
    Rws w ((W.setCell ⟨p, 0, none⟩ a').setCell ⟨p, 1, none⟩ b') ((p, t, #[a', b']) :: L) := by
  refine ⟨fun r hr => ?_, (h.2.setCell (p := ⟨p, 0, none⟩) hp a').setCell (p := ⟨p, 1, none⟩) hp b'⟩
  rcases List.mem_cons.1 hr with rfl | hr
  · exact heap_setCell_same _ p 1 _ _ _ (heap_setCell_same _ p 0 _ _ _ h.at0)
  · have hne : r.1 ≠ p := by have := hl r hr; omega
    show RowAt _ _ _ _
    unfold RowAt
    rw [Below.heap_setCell _ _ _ _ hne, Below.heap_setCell _ _ _ _ hne]
    exact h.1 r (List.mem_cons_of_mem _ hr)
/-- Slots filled one after the other. -/
def puts (a : Act) : List (Tmp × Value) → Act
  | [] => a
  | (i, v) :: l => puts (a.put (some i) v) l
def RegX {α : Type} (A : α → Act) (F : α → World → Prop) : Exit → Act → World → Prop := fun e a w => e = .normal ∧ ∃ x, a = A x ∧ F x w
theorem reg_framex {α : Type} {P : Program} {c : Code} {Q' : Exit → Act → World → Prop} {a : Act} {w : World} (A : α → List (Tmp × Value)) (F : α → World → Prop)
    (h1 : c.wp P (RegX (fun x => puts a (A x)) F) a w) (h2 : ∀ x w', F x w' → Q' .normal (puts a (A x)) w') : c.wp P Q' a w :=
  Code.wp_mono (fun e a' w' ⟨he, x, ha, hf⟩ => by subst he; subst ha; exact h2 x w' hf) h1
theorem kHeld {S : World → Prop} {K : Act → World → Prop} {R : Act → World → Prop} (h : ∀ a w, S w → (S w → R a w) → K a w) {a : Act} {W : World} (hs : S W) (hr : S W → R a W) : K a W := h a W hs hr

def goodB (sec ns : Int) : Bool := decide (-62135596800 ≤ sec) && (decide (sec ≤ 253402300799) && (decide (0 ≤ ns) && decide (ns < 1000000000)))
set_option maxHeartbeats 2000000 in
theorem good_any (sec ns : Int) (w : World) :
    Calls Try.prog 11 #[.agg #[.int .i64 sec, .int .i64 ns]] w fun e w' => e = .returned (.bool (goodB sec ns)) ∧ Below w.heap.size w w' := by
  unfold goodB
  by_cases h1 : -62135596800 ≤ sec
  · by_cases h2 : sec ≤ 253402300799
    · by_cases h3 : 0 ≤ ns
      · by_cases h4 : ns < 1000000000
        all_goals
          go_enter Try.func11, Try.ntmps11
          go_wp2_with fail
          go_ret
          exact ⟨ret_bool (by simp [h1, h2, h3, h4]), (by repeat (first | (with_reducible assumption) | (with_reducible exact Below.refl _ _) | (with_reducible refine Below.setCell ?_ (by first | omega | (simp <;> omega)) _) | refine below_drewN ?_ _ | refine Below.drew ?_ | refine Below.alloc ?_ (by first | omega | (simp <;> omega)) _))⟩
      · have h3' : ns < 0 := by omega
        go_enter Try.func11, Try.ntmps11
        go_wp2_with fail
        go_ret
        exact ⟨ret_bool (by simp [h1, h2, h3]; omega), (by repeat (first | (with_reducible assumption) | (with_reducible exact Below.refl _ _) | (with_reducible refine Below.setCell ?_ (by first | omega | (simp <;> omega)) _) | refine below_drewN ?_ _ | refine Below.drew ?_ | refine Below.alloc ?_ (by first | omega | (simp <;> omega)) _))⟩
    · have h2' : 253402300799 < sec := by omega
      go_enter Try.func11, Try.ntmps11
      go_wp2_with fail
      go_ret
      exact ⟨ret_bool (by simp [h1, h2]; omega), (by repeat (first | (with_reducible assumption) | (with_reducible exact Below.refl _ _) | (with_reducible refine Below.setCell ?_ (by first | omega | (simp <;> omega)) _) | refine below_drewN ?_ _ | refine Below.drew ?_ | refine Below.alloc ?_ (by first | omega | (simp <;> omega)) _))⟩
  · have h1' : sec < -62135596800 := by omega
    go_enter Try.func11, Try.ntmps11
    go_wp2_with fail
    go_ret
    exact ⟨ret_bool (by simp [h1]; omega), (by repeat (first | (with_reducible assumption) | (with_reducible exact Below.refl _ _) | (with_reducible refine Below.setCell ?_ (by first | omega | (simp <;> omega)) _) | refine below_drewN ?_ _ | refine Below.drew ?_ | refine Below.alloc ?_ (by first | omega | (simp <;> omega)) _))⟩

set_option maxHeartbeats 2000000 in
theorem case_any (s : Sched) (ev : Bool) (dl sec ns : Int) (w : World) :
    Calls Try.prog 16 #[.agg #[.bool ev, .int .i64 dl, .int .u64 s.se, .int .u64 s.mi, .int .u64 s.ho, .int .u64 s.dom, .int .u64 s.mo, .int .u64 s.dow], .agg #[.int .i64 sec, .int .i64 ns]] w fun e w' => e = .returned (.bool (!ev && goodB sec ns)) ∧ Below w.heap.size w w' := by
  cases ev
  · go_enter Try.func16, Try.ntmps16
    go_wp2_with fail
    refine (good_any sec ns _).mono ?_
    rintro e w1 ⟨rfl, hb⟩
    have b1 : Below w.heap.size w w1 := Below.trans (by repeat (first | (with_reducible assumption) | (with_reducible exact Below.refl _ _) | (with_reducible refine Below.setCell ?_ (by first | omega | (simp <;> omega)) _) | refine below_drewN ?_ _ | refine Below.drew ?_ | refine Below.alloc ?_ (by first | omega | (simp <;> omega)) _)) (hb.mono (by simp; omega))
    obtain ⟨gb, hgb⟩ : ∃ gb, goodB sec ns = gb := ⟨_, rfl⟩
    rw [hgb]
    cases gb <;> (go_wp2_with fail; go_ret; exact ⟨ret_bool (by rw [hgb]; rfl), b1⟩)
  · go_enter Try.func16, Try.ntmps16
    go_wp2_with fail
    go_ret
    exact ⟨rfl, (by repeat (first | (with_reducible assumption) | (with_reducible exact Below.refl _ _) | (with_reducible refine Below.setCell ?_ (by first | omega | (simp <;> omega)) _) | refine below_drewN ?_ _ | refine Below.drew ?_ | refine Below.alloc ?_ (by first | omega | (simp <;> omega)) _))⟩

def beforeB (a b c d : Int) : Bool := decide (a < c) || (decide (a = c) && decide (b < d))
set_option maxHeartbeats 2000000 in
theorem before_any (sec ns sec2 ns2 : Int) (w : World) :
    Calls Try.prog 24 #[.agg #[.int .i64 sec, .int .i64 ns], .agg #[.int .i64 sec2, .int .i64 ns2]] w fun e w' => e = .returned (.bool (beforeB sec ns sec2 ns2)) ∧ Below w.heap.size w w' := by
  unfold beforeB
  by_cases h1 : sec < sec2
  · go_enter Try.func24, Try.ntmps24
    go_wp2_with fail
    go_ret
    exact ⟨ret_bool (by simp [h1]), (by repeat (first | (with_reducible assumption) | (with_reducible exact Below.refl _ _) | (with_reducible refine Below.setCell ?_ (by first | omega | (simp <;> omega)) _) | refine below_drewN ?_ _ | refine Below.drew ?_ | refine Below.alloc ?_ (by first | omega | (simp <;> omega)) _))⟩
  · have h1' : sec2 ≤ sec := by omega
    by_cases h2 : sec = sec2
    · subst h2
      clear h1'
      by_cases h3 : ns < ns2
      all_goals
        go_enter Try.func24, Try.ntmps24
        go_wp2_with fail
        go_ret
        exact ⟨ret_bool (by simp [h3]), (by repeat (first | (with_reducible assumption) | (with_reducible exact Below.refl _ _) | (with_reducible refine Below.setCell ?_ (by first | omega | (simp <;> omega)) _) | refine below_drewN ?_ _ | refine Below.drew ?_ | refine Below.alloc ?_ (by first | omega | (simp <;> omega)) _))⟩
    · have h2' : (sec == sec2) = false := by simp [h2]
      go_enter Try.func24, Try.ntmps24
      go_wp2_with fail
      go_ret
      exact ⟨ret_bool (by simp [h2]; omega), (by repeat (first | (with_reducible assumption) | (with_reducible exact Below.refl _ _) | (with_reducible refine Below.setCell ?_ (by first | omega | (simp <;> omega)) _) | refine below_drewN ?_ _ | refine Below.drew ?_ | refine Below.alloc ?_ (by first | omega | (simp <;> omega)) _))⟩

set_option maxHeartbeats 400000 in
theorem whole_any (sec : Int) (w : World) :
    Calls Try.prog 22 #[.int .i64 sec] w fun e w' => e = .returned (.agg #[.int .i64 sec, .int .i64 0]) ∧ Below w.heap.size w w' := by
  go_enter Try.func22, Try.ntmps22
  go_wp2_with fail
  refine bodyPost_ret (v := .agg #[.int .i64 sec, .int .i64 0]) (by simp [results, Try.results22, go_sem]) rfl ⟨rfl, ?_⟩
  exact (by repeat (first | (with_reducible assumption) | (with_reducible exact Below.refl _ _) | (with_reducible refine Below.setCell ?_ (by first | omega | (simp <;> omega)) _) | refine below_drewN ?_ _ | refine Below.drew ?_ | refine Below.alloc ?_ (by first | omega | (simp <;> omega)) _))

theorem specNext_fix (s : Sched) (sec : Int) (ns : Nat) (h0 : -62135596800 ≤ sec) (h1 : sec ≤ 253402300799) (first Y0 : Int) (Hf : Hid (first = sec + 62135596800 + 1)) (HY0 : Hid (yearOf (dayN (sec + 62135596800 + 1)) = Y0)) (yb0 : 1 ≤ Y0 ∧ Y0 ≤ 10000) (r x : Int) (b : Bool) (hr : Hid (NextIs s first (Y0 + 5) r)) (hx : Hid (ansX r = x ∧ ansB r = b)) (A : Array Value) (hA : Hid (A = (fieldsL s).toArray)) (w : World) :
    Calls Try.prog 17 #[.agg A, .agg #[.int .i64 sec, .int .i64 ns], .agg #[.slice none 0 0, .slice none 0 0, .slice none 0 0, .slice none 0 0]] w fun e w' => e = .returned (.tuple #[.agg #[.int .i64 x, .int .i64 0], .bool b]) ∧ Below w.heap.size w w' := by
  refine (cronNext_any A s hA sec ns h0 h1 first Y0 Hf HY0 yb0 w).mono ?_
  rintro e w' ⟨r', hr', rfl, hb⟩
  obtain rfl := hr.out.unique hr'.out
  exact ⟨by rw [hx.out.1, hx.out.2], hb⟩
theorem implNext_fix (s : Sched) (sec : Int) (ns : Nat) (h0 : -62135596800 ≤ sec) (h1 : sec ≤ 253402300799) (first Y0 : Int) (Hf : Hid (first = sec + 62135596800 + 1)) (HY0 : Hid (yearOf (dayN (sec + 62135596800 + 1)) = Y0)) (yb0 : 1 ≤ Y0 ∧ Y0 ≤ 10000) (r x : Int) (b : Bool) (hr : Hid (NextIs s first (Y0 + 5) r)) (hx : Hid (ansX r = x ∧ ansB r = b)) (hok : Hid s.ok) (dl : Int) (hn : ns < 1000000000) (w : World) :
    Calls Try.prog 20 #[.agg #[.bool false, .int .i64 dl, .int .u64 s.se, .int .u64 s.mi, .int .u64 s.ho, .int .u64 s.dom, .int .u64 s.mo, .int .u64 s.dow], .agg #[.int .i64 sec, .int .i64 ns], .agg #[.slice none 0 0, .slice none 0 0, .slice none 0 0, .slice none 0 0]] w fun e w' => e = .returned (.tuple #[.agg #[.int .i64 x, .int .i64 0], .bool b]) ∧ Below w.heap.size w w' := by
  refine (implNext_any s hok dl sec ns hn h0 h1 first Y0 Hf HY0 yb0 w).mono ?_
  rintro e w' ⟨r', hr', rfl, hb⟩
  obtain rfl := hr.out.unique hr'.out
  exact ⟨by rw [hx.out.1, hx.out.2], hb⟩
theorem fieldsOf_A (s : Sched) (hok : s.ok) (A : Array Value) (hA : Hid (A = (fieldsL s).toArray)) (dl : Int) (w : World) :
    Calls Try.prog 18 #[.agg #[.bool false, .int .i64 dl, .int .u64 s.se, .int .u64 s.mi, .int .u64 s.ho, .int .u64 s.dom, .int .u64 s.mo, .int .u64 s.dow]] w fun e w' => e = .returned (.agg A) ∧ Below w.heap.size w w' := by
  rw [hA.out]; exact fieldsOf_any s hok dl w
set_option maxRecDepth 100000 in
set_option maxHeartbeats 4000000 in
theorem none_any (s : Sched) (sec : Int) (ns : Nat) (h0 : -62135596800 ≤ sec) (h1 : sec ≤ 253402300799) (first Y0 : Int) (Hf : Hid (first = sec + 62135596800 + 1)) (HY0 : Hid (yearOf (dayN (sec + 62135596800 + 1)) = Y0)) (yb0 : 1 ≤ Y0 ∧ Y0 ≤ 10000) (r x : Int) (b : Bool) (hr : Hid (NextIs s first (Y0 + 5) r)) (hx : Hid (ansX r = x ∧ ansB r = b)) (hok : Hid s.ok) (dl : Int) (w : World) :
    Calls Try.prog 21 #[.agg #[.bool false, .int .i64 dl, .int .u64 s.se, .int .u64 s.mi, .int .u64 s.ho, .int .u64 s.dom, .int .u64 s.mo, .int .u64 s.dow], .agg #[.int .i64 sec, .int .i64 ns], .agg #[.slice none 0 0, .slice none 0 0, .slice none 0 0, .slice none 0 0]] w fun e w' => e = .returned (.bool !b) ∧ Below w.heap.size w w' := by
  obtain ⟨A, hA⟩ : ∃ A, Hid (A = (fieldsL s).toArray) := ⟨_, rfl⟩
  go_enter Try.func21, Try.ntmps21
  go_wp2_with fail
  have HR0 : Hid (Rws w (((w.alloc (.cells #[.bool false, .int .i64 dl, .int .u64 s.se, .int .u64 s.mi, .int .u64 s.ho, .int .u64 s.dom, .int .u64 s.mo, .int .u64 s.dow] 38)).alloc (.cells #[.int .i64 sec, .int .i64 ns] 24)).alloc (.cells #[.slice none 0 0, .slice none 0 0, .slice none 0 0, .slice none 0 0] 29)) [(w.heap.size + 1 + 1, 29, #[.slice none 0 0, .slice none 0 0, .slice none 0 0, .slice none 0 0]), (w.heap.size + 1, 24, #[.int .i64 sec, .int .i64 ns]), (w.heap.size, 38, #[.bool false, .int .i64 dl, .int .u64 s.se, .int .u64 s.mi, .int .u64 s.ho, .int .u64 s.dom, .int .u64 s.mo, .int .u64 s.dow])]) :=
    Lib.hid ((((show Rws w w [] from ⟨fun r hr => (by cases hr), Below.refl _ _⟩).alloc _ rfl _ _).alloc _ (by simp) _ _).alloc _ (by simp) _ _)
  refine wp_named ?_
  intro W0 hW0
  rw [hW0] at HR0
  clear hW0
  obtain ⟨L0, HL0⟩ : ∃ L0 : List (Nat × TypeId × Array Value), Hid (L0 = [(w.heap.size + 1 + 1, 29, #[.slice none 0 0, .slice none 0 0, .slice none 0 0, .slice none 0 0]), (w.heap.size + 1, 24, #[.int .i64 sec, .int .i64 ns]), (w.heap.size, 38, #[.bool false, .int .i64 dl, .int .u64 s.se, .int .u64 s.mi, .int .u64 s.ho, .int .u64 s.dom, .int .u64 s.mo, .int .u64 s.dow])]) := ⟨_, rfl⟩
  rw [← HL0.out] at HR0
  refine reg_framex (fun p => [(10, .agg #[.bool false, .int .i64 dl, .int .u64 s.se, .int .u64 s.mi, .int .u64 s.ho, .int .u64 s.dom, .int .u64 s.mo, .int .u64 s.dow]), (11, .agg A), (12, .agg #[.int .i64 sec, .int .i64 ns]), (13, .agg #[.slice none 0 0, .slice none 0 0, .slice none 0 0, .slice none 0 0]), (14, .tuple #[.agg #[.int .i64 x, .int .i64 0], .bool b]), (9, .tuple #[.agg #[.int .i64 x, .int .i64 0], .bool b]), (15, .agg #[.int .i64 x, .int .i64 0]), (16, .bool b), (7, .pointer (some ⟨p, 0, none⟩)), (8, .bool b)]) (fun p w' => Rws w w' ((p, 24, #[.int .i64 x, .int .i64 0]) :: L0)) ?reg ?hq
  case reg =>
    have HFd : Hid (Rws w W0.drew L0) := Lib.hid HR0.out.drew
    refine wp_region_held_drew (S := fun w' => Hid (Rws w w' L0)) (by kernel_rfl) HFd (fun hHeld => ?_)
    generalize W0.drew = Wd at HFd hHeld ⊢
    (try simp only [Act.put, List.getElem_toArray, List.getElem_cons_zero, List.getElem_cons_succ, List.setIfInBounds_toArray, List.set_cons_zero, List.set_cons_succ])
    refine wpAnyH_take (i := 0) (v := ?_) rfl (by kernel_rfl) (by kernel_rfl) (by kernel_rfl) (fun _ _ _ h => nomatch h.1) (Or.inl ⟨by rfl, ?_⟩) (by assumption) ?_
    rotate_left
    · (intro wx hSw; have hSx := hSw.out; rw [HL0.out] at hSx; have k0 : wx.cell? ⟨w.heap.size, 0, none⟩ = some (.bool false) := hSx.at2.cell 0; have k1 : wx.cell? ⟨w.heap.size, 1, none⟩ = some (.int .i64 dl) := hSx.at2.cell 1; have k2 : wx.cell? ⟨w.heap.size, 2, none⟩ = some (.int .u64 s.se) := hSx.at2.cell 2; have k3 : wx.cell? ⟨w.heap.size, 3, none⟩ = some (.int .u64 s.mi) := hSx.at2.cell 3; have k4 : wx.cell? ⟨w.heap.size, 4, none⟩ = some (.int .u64 s.ho) := hSx.at2.cell 4; have k5 : wx.cell? ⟨w.heap.size, 5, none⟩ = some (.int .u64 s.dom) := hSx.at2.cell 5; have k6 : wx.cell? ⟨w.heap.size, 6, none⟩ = some (.int .u64 s.mo) := hSx.at2.cell 6; have k7 : wx.cell? ⟨w.heap.size, 7, none⟩ = some (.int .u64 s.dow) := hSx.at2.cell 7; go_simp; (try with_reducible rfl))
    (try simp only [Act.put, List.getElem_toArray, List.getElem_cons_zero, List.getElem_cons_succ, List.setIfInBounds_toArray, List.set_cons_zero, List.set_cons_succ])
    refine wpAnyH_take (i := 2) (v := ?_) rfl (by kernel_rfl) (by kernel_rfl) (by kernel_rfl) (fun _ _ _ h => nomatch h.1) (Or.inl ⟨by rfl, ?_⟩) (by assumption) ?_
    rotate_left
    · (intro wx hSw; have hSx := hSw.out; rw [HL0.out] at hSx; have k0 : wx.cell? ⟨w.heap.size + 1, 0, none⟩ = some (.int .i64 sec) := hSx.at1.cell 0; have k1 : wx.cell? ⟨w.heap.size + 1, 1, none⟩ = some (.int .i64 ns) := hSx.at1.cell 1; go_simp; (try with_reducible rfl))
    (try simp only [Act.put, List.getElem_toArray, List.getElem_cons_zero, List.getElem_cons_succ, List.setIfInBounds_toArray, List.set_cons_zero, List.set_cons_succ])
    refine wpAnyH_take (i := 3) (v := ?_) rfl (by kernel_rfl) (by kernel_rfl) (by kernel_rfl) (fun _ _ _ h => nomatch h.1) (Or.inl ⟨by rfl, ?_⟩) (by assumption) ?_
    rotate_left
    · (intro wx hSw; have hSx := hSw.out; rw [HL0.out] at hSx; have k0 : wx.cell? ⟨w.heap.size + 1 + 1, 0, none⟩ = some (.slice none 0 0) := hSx.at0.cell 0; have k1 : wx.cell? ⟨w.heap.size + 1 + 1, 1, none⟩ = some (.slice none 0 0) := hSx.at0.cell 1; have k2 : wx.cell? ⟨w.heap.size + 1 + 1, 2, none⟩ = some (.slice none 0 0) := hSx.at0.cell 2; have k3 : wx.cell? ⟨w.heap.size + 1 + 1, 3, none⟩ = some (.slice none 0 0) := hSx.at0.cell 3; go_simp; (try with_reducible rfl))
    (try simp only [Act.put, List.getElem_toArray, List.getElem_cons_zero, List.getElem_cons_succ, List.setIfInBounds_toArray, List.set_cons_zero, List.set_cons_succ])
    refine wpAnyH_ready (rs := [1, 8]) (by kernel_rfl) (by simp) ?_
    refine (AllReadyH.cons rfl (fun K hK => ?_) (AllReadyH.cons rfl (fun K hK => ?_) AllReadyH.nil))
    · go_simp
      go_at_call 18
      refine (fieldsOf_A s hok.out A hA dl _).mono ?_
      rintro e v1 ⟨rfl, hb⟩
      have HF1 : Hid (Rws w v1 L0) := Lib.hid (HFd.out.below hb)
      clear hb HFd
      have HN : Hid (Rws w v1 L0) := Lib.hid HF1.out
      refine hK.out _ _ HN (fun hH2 => ?_)
      clear hK K hHeld
      have hHeld := hH2
      clear hH2
      (try simp only [Act.put, List.getElem_toArray, List.getElem_cons_zero, List.getElem_cons_succ, List.setIfInBounds_toArray, List.set_cons_zero, List.set_cons_succ])
      refine wpAnyH_ready (rs := [4, 8]) (by kernel_rfl) (by simp) ?_
      refine (AllReadyH.cons rfl (fun K hK => ?_) (AllReadyH.cons rfl (fun K hK => ?_) AllReadyH.nil))
      · go_simp
        go_at_call 17
        refine (specNext_fix s sec ns h0 h1 first Y0 Hf HY0 yb0 r x b hr hx A hA _).mono ?_
        rintro e v2 ⟨rfl, hb⟩
        have HF2 : Hid (Rws w v2 L0) := Lib.hid (HF1.out.below hb)
        clear hb HF1
        have HN : Hid (Rws w v2 L0) := Lib.hid HF2.out
        refine hK.out _ _ HN (fun hH2 => ?_)
        clear hK K hHeld
        have hHeld := hH2
        clear hH2
        (try simp only [Act.put, List.getElem_toArray, List.getElem_cons_zero, List.getElem_cons_succ, List.setIfInBounds_toArray, List.set_cons_zero, List.set_cons_succ])
        refine wpAnyH_take (i := 5) (v := ?_) rfl (by kernel_rfl) (by kernel_rfl) (by kernel_rfl) (fun _ _ _ h => nomatch h.1) (Or.inl ⟨by rfl, ?_⟩) (by assumption) ?_
        rotate_left
        · (intro wx hSw; go_simp; (try with_reducible rfl))
        (try simp only [Act.put, List.getElem_toArray, List.getElem_cons_zero, List.getElem_cons_succ, List.setIfInBounds_toArray, List.set_cons_zero, List.set_cons_succ])
        refine wpAnyH_take (i := 6) (v := ?_) rfl (by kernel_rfl) (by kernel_rfl) (by kernel_rfl) (fun _ _ _ h => nomatch h.1) (Or.inl ⟨by rfl, ?_⟩) (by assumption) ?_
        rotate_left
        · (intro wx hSw; go_simp; (try with_reducible rfl))
        (try simp only [Act.put, List.getElem_toArray, List.getElem_cons_zero, List.getElem_cons_succ, List.setIfInBounds_toArray, List.set_cons_zero, List.set_cons_succ])
        refine wpAnyH_take (i := 7) (v := ?_) rfl (by kernel_rfl) (by kernel_rfl) (by kernel_rfl) (fun _ _ _ h => nomatch h.1) (Or.inl ⟨by rfl, ?_⟩) (by assumption) ?_
        rotate_left
        · (intro wx hSw; go_simp; (try with_reducible rfl))
        (try simp only [Act.put, List.getElem_toArray, List.getElem_cons_zero, List.getElem_cons_succ, List.setIfInBounds_toArray, List.set_cons_zero, List.set_cons_succ])
        refine wpAnyH_ready (rs := [8]) (by kernel_rfl) (by simp) ?_
        refine (AllReadyH.cons rfl (fun K hK => ?_) AllReadyH.nil)
        go_simp
        obtain ⟨p3, hp⟩ : ∃ p3, p3 = v2.heap.size := ⟨_, rfl⟩
        (try rw [← hp])
        have HLp3 : Hid ((∀ r ∈ L0, r.1 < p3) ∧ w.heap.size ≤ p3) := Lib.hid ⟨by rw [hp]; exact HF2.out.lt, by rw [hp]; exact HF2.out.2.size⟩
        have HF3 : Hid (Rws w (v2.alloc (.cells #[.int .i64 0, .int .i64 0] 24)) ((p3, 24, #[.int .i64 0, .int .i64 0]) :: L0)) := Lib.hid (HF2.out.alloc p3 hp _ _)
        clear HF2 hp
        refine kHeld hK.out (W := v2.alloc (.cells #[.int .i64 0, .int .i64 0] 24)) (Lib.hid HF3.out.tail) (fun hH2 => ?_)
        clear hK K hHeld
        have hHeld := hH2
        clear hH2
        generalize v2.alloc (.cells #[.int .i64 0, .int .i64 0] 24) = a3 at hHeld HF3 ⊢
        (try simp only [Act.put, List.getElem_toArray, List.getElem_cons_zero, List.getElem_cons_succ, List.setIfInBounds_toArray, List.set_cons_zero, List.set_cons_succ])
        refine wpAnyH_ready (rs := [9]) (by kernel_rfl) (by simp) ?_
        refine (AllReadyH.cons rfl (fun K hK => ?_) AllReadyH.nil)
        have c0 : a3.cell? ⟨p3, 0, none⟩ = some (.int .i64 0) := HF3.out.at0.cell 0
        have c1 : a3.cell? ⟨p3, 1, none⟩ = some (.int .i64 0) := HF3.out.at0.cell 1
        have f0 := HF3.out.at0.free 0
        have f1 := HF3.out.at0.free 1
        have HE : Hid (Rws w ((a3.setCell ⟨p3, 0, none⟩ (.int .i64 x)).setCell ⟨p3, 1, none⟩ (.int .i64 0)) ((p3, 24, #[.int .i64 x, .int .i64 0]) :: L0)) := Lib.hid (HF3.out.set2 HLp3.out.1 HLp3.out.2 _ _)
        have HN : Hid (Rws w ((a3.setCell ⟨p3, 0, none⟩ (.int .i64 x)).setCell ⟨p3, 1, none⟩ (.int .i64 0)) L0) := Lib.hid HE.out.tail
        go_simp
        refine hK.out _ _ HN (fun hH2 => ?_)
        clear hK K hHeld
        have hHeld := hH2
        clear hH2
        (try simp only [Act.put, List.getElem_toArray, List.getElem_cons_zero, List.getElem_cons_succ, List.setIfInBounds_toArray, List.set_cons_zero, List.set_cons_succ])
        refine wpAnyH_take (i := 10) (v := ?_) rfl (by kernel_rfl) (by kernel_rfl) (by kernel_rfl) (fun _ _ _ h => nomatch h.1) (Or.inl ⟨by rfl, ?_⟩) (by assumption) ?_
        rotate_left
        · (intro wx hSw; go_simp; (try with_reducible rfl))
        (try simp only [Act.put, List.getElem_toArray, List.getElem_cons_zero, List.getElem_cons_succ, List.setIfInBounds_toArray, List.set_cons_zero, List.set_cons_succ])
        refine wpAnyH_done (by kernel_rfl) ?_ _
        exact ⟨rfl, p3, by (simp only [puts, Act.put, List.setIfInBounds_toArray, List.set_cons_zero, List.set_cons_succ]), HE.out⟩
      · go_simp
        obtain ⟨p4, hp⟩ : ∃ p4, p4 = v1.heap.size := ⟨_, rfl⟩
        (try rw [← hp])
        have HLp4 : Hid ((∀ r ∈ L0, r.1 < p4) ∧ w.heap.size ≤ p4) := Lib.hid ⟨by rw [hp]; exact HF1.out.lt, by rw [hp]; exact HF1.out.2.size⟩
        have HF4 : Hid (Rws w (v1.alloc (.cells #[.int .i64 0, .int .i64 0] 24)) ((p4, 24, #[.int .i64 0, .int .i64 0]) :: L0)) := Lib.hid (HF1.out.alloc p4 hp _ _)
        clear HF1 hp
        refine kHeld hK.out (W := v1.alloc (.cells #[.int .i64 0, .int .i64 0] 24)) (Lib.hid HF4.out.tail) (fun hH2 => ?_)
        clear hK K hHeld
        have hHeld := hH2
        clear hH2
        generalize v1.alloc (.cells #[.int .i64 0, .int .i64 0] 24) = a4 at hHeld HF4 ⊢
        (try simp only [Act.put, List.getElem_toArray, List.getElem_cons_zero, List.getElem_cons_succ, List.setIfInBounds_toArray, List.set_cons_zero, List.set_cons_succ])
        refine wpAnyH_ready (rs := [4]) (by kernel_rfl) (by simp) ?_
        refine (AllReadyH.cons rfl (fun K hK => ?_) AllReadyH.nil)
        go_simp
        go_at_call 17
        refine (specNext_fix s sec ns h0 h1 first Y0 Hf HY0 yb0 r x b hr hx A hA _).mono ?_
        rintro e v5 ⟨rfl, hb⟩
        have HF5 : Hid (Rws w v5 ((p4, 24, #[.int .i64 0, .int .i64 0]) :: L0)) := Lib.hid (HF4.out.below hb)
        clear hb HF4
        have HN : Hid (Rws w v5 L0) := Lib.hid HF5.out.tail
        refine hK.out _ _ HN (fun hH2 => ?_)
        clear hK K hHeld
        have hHeld := hH2
        clear hH2
        (try simp only [Act.put, List.getElem_toArray, List.getElem_cons_zero, List.getElem_cons_succ, List.setIfInBounds_toArray, List.set_cons_zero, List.set_cons_succ])
        refine wpAnyH_take (i := 5) (v := ?_) rfl (by kernel_rfl) (by kernel_rfl) (by kernel_rfl) (fun _ _ _ h => nomatch h.1) (Or.inl ⟨by rfl, ?_⟩) (by assumption) ?_
        rotate_left
        · (intro wx hSw; go_simp; (try with_reducible rfl))
        (try simp only [Act.put, List.getElem_toArray, List.getElem_cons_zero, List.getElem_cons_succ, List.setIfInBounds_toArray, List.set_cons_zero, List.set_cons_succ])
        refine wpAnyH_take (i := 6) (v := ?_) rfl (by kernel_rfl) (by kernel_rfl) (by kernel_rfl) (fun _ _ _ h => nomatch h.1) (Or.inl ⟨by rfl, ?_⟩) (by assumption) ?_
        rotate_left
        · (intro wx hSw; go_simp; (try with_reducible rfl))
        (try simp only [Act.put, List.getElem_toArray, List.getElem_cons_zero, List.getElem_cons_succ, List.setIfInBounds_toArray, List.set_cons_zero, List.set_cons_succ])
        refine wpAnyH_take (i := 7) (v := ?_) rfl (by kernel_rfl) (by kernel_rfl) (by kernel_rfl) (fun _ _ _ h => nomatch h.1) (Or.inl ⟨by rfl, ?_⟩) (by assumption) ?_
        rotate_left
        · (intro wx hSw; go_simp; (try with_reducible rfl))
        (try simp only [Act.put, List.getElem_toArray, List.getElem_cons_zero, List.getElem_cons_succ, List.setIfInBounds_toArray, List.set_cons_zero, List.set_cons_succ])
        refine wpAnyH_ready (rs := [9]) (by kernel_rfl) (by simp) ?_
        refine (AllReadyH.cons rfl (fun K hK => ?_) AllReadyH.nil)
        have c0 : v5.cell? ⟨p4, 0, none⟩ = some (.int .i64 0) := HF5.out.at0.cell 0
        have c1 : v5.cell? ⟨p4, 1, none⟩ = some (.int .i64 0) := HF5.out.at0.cell 1
        have f0 := HF5.out.at0.free 0
        have f1 := HF5.out.at0.free 1
        have HE : Hid (Rws w ((v5.setCell ⟨p4, 0, none⟩ (.int .i64 x)).setCell ⟨p4, 1, none⟩ (.int .i64 0)) ((p4, 24, #[.int .i64 x, .int .i64 0]) :: L0)) := Lib.hid (HF5.out.set2 HLp4.out.1 HLp4.out.2 _ _)
        have HN : Hid (Rws w ((v5.setCell ⟨p4, 0, none⟩ (.int .i64 x)).setCell ⟨p4, 1, none⟩ (.int .i64 0)) L0) := Lib.hid HE.out.tail
        go_simp
        refine hK.out _ _ HN (fun hH2 => ?_)
        clear hK K hHeld
        have hHeld := hH2
        clear hH2
        (try simp only [Act.put, List.getElem_toArray, List.getElem_cons_zero, List.getElem_cons_succ, List.setIfInBounds_toArray, List.set_cons_zero, List.set_cons_succ])
        refine wpAnyH_take (i := 10) (v := ?_) rfl (by kernel_rfl) (by kernel_rfl) (by kernel_rfl) (fun _ _ _ h => nomatch h.1) (Or.inl ⟨by rfl, ?_⟩) (by assumption) ?_
        rotate_left
        · (intro wx hSw; go_simp; (try with_reducible rfl))
        (try simp only [Act.put, List.getElem_toArray, List.getElem_cons_zero, List.getElem_cons_succ, List.setIfInBounds_toArray, List.set_cons_zero, List.set_cons_succ])
        refine wpAnyH_done (by kernel_rfl) ?_ _
        exact ⟨rfl, p4, by (simp only [puts, Act.put, List.setIfInBounds_toArray, List.set_cons_zero, List.set_cons_succ]), HE.out⟩
    · go_simp
      obtain ⟨p6, hp⟩ : ∃ p6, p6 = Wd.heap.size := ⟨_, rfl⟩
      (try rw [← hp])
      have HLp6 : Hid ((∀ r ∈ L0, r.1 < p6) ∧ w.heap.size ≤ p6) := Lib.hid ⟨by rw [hp]; exact HFd.out.lt, by rw [hp]; exact HFd.out.2.size⟩
      have HF6 : Hid (Rws w (Wd.alloc (.cells #[.int .i64 0, .int .i64 0] 24)) ((p6, 24, #[.int .i64 0, .int .i64 0]) :: L0)) := Lib.hid (HFd.out.alloc p6 hp _ _)
      clear HFd hp
      refine kHeld hK.out (W := Wd.alloc (.cells #[.int .i64 0, .int .i64 0] 24)) (Lib.hid HF6.out.tail) (fun hH2 => ?_)
      clear hK K hHeld
      have hHeld := hH2
      clear hH2
      generalize Wd.alloc (.cells #[.int .i64 0, .int .i64 0] 24) = a6 at hHeld HF6 ⊢
      (try simp only [Act.put, List.getElem_toArray, List.getElem_cons_zero, List.getElem_cons_succ, List.setIfInBounds_toArray, List.set_cons_zero, List.set_cons_succ])
      refine wpAnyH_ready (rs := [1]) (by kernel_rfl) (by simp) ?_
      refine (AllReadyH.cons rfl (fun K hK => ?_) AllReadyH.nil)
      go_simp
      go_at_call 18
      refine (fieldsOf_A s hok.out A hA dl _).mono ?_
      rintro e v7 ⟨rfl, hb⟩
      have HF7 : Hid (Rws w v7 ((p6, 24, #[.int .i64 0, .int .i64 0]) :: L0)) := Lib.hid (HF6.out.below hb)
      clear hb HF6
      have HN : Hid (Rws w v7 L0) := Lib.hid HF7.out.tail
      refine hK.out _ _ HN (fun hH2 => ?_)
      clear hK K hHeld
      have hHeld := hH2
      clear hH2
      (try simp only [Act.put, List.getElem_toArray, List.getElem_cons_zero, List.getElem_cons_succ, List.setIfInBounds_toArray, List.set_cons_zero, List.set_cons_succ])
      refine wpAnyH_ready (rs := [4]) (by kernel_rfl) (by simp) ?_
      refine (AllReadyH.cons rfl (fun K hK => ?_) AllReadyH.nil)
      go_simp
      go_at_call 17
      refine (specNext_fix s sec ns h0 h1 first Y0 Hf HY0 yb0 r x b hr hx A hA _).mono ?_
      rintro e v8 ⟨rfl, hb⟩
      have HF8 : Hid (Rws w v8 ((p6, 24, #[.int .i64 0, .int .i64 0]) :: L0)) := Lib.hid (HF7.out.below hb)
      clear hb HF7
      have HN : Hid (Rws w v8 L0) := Lib.hid HF8.out.tail
      refine hK.out _ _ HN (fun hH2 => ?_)
      clear hK K hHeld
      have hHeld := hH2
      clear hH2
      (try simp only [Act.put, List.getElem_toArray, List.getElem_cons_zero, List.getElem_cons_succ, List.setIfInBounds_toArray, List.set_cons_zero, List.set_cons_succ])
      refine wpAnyH_take (i := 5) (v := ?_) rfl (by kernel_rfl) (by kernel_rfl) (by kernel_rfl) (fun _ _ _ h => nomatch h.1) (Or.inl ⟨by rfl, ?_⟩) (by assumption) ?_
      rotate_left
      · (intro wx hSw; go_simp; (try with_reducible rfl))
      (try simp only [Act.put, List.getElem_toArray, List.getElem_cons_zero, List.getElem_cons_succ, List.setIfInBounds_toArray, List.set_cons_zero, List.set_cons_succ])
      refine wpAnyH_take (i := 6) (v := ?_) rfl (by kernel_rfl) (by kernel_rfl) (by kernel_rfl) (fun _ _ _ h => nomatch h.1) (Or.inl ⟨by rfl, ?_⟩) (by assumption) ?_
      rotate_left
      · (intro wx hSw; go_simp; (try with_reducible rfl))
      (try simp only [Act.put, List.getElem_toArray, List.getElem_cons_zero, List.getElem_cons_succ, List.setIfInBounds_toArray, List.set_cons_zero, List.set_cons_succ])
      refine wpAnyH_take (i := 7) (v := ?_) rfl (by kernel_rfl) (by kernel_rfl) (by kernel_rfl) (fun _ _ _ h => nomatch h.1) (Or.inl ⟨by rfl, ?_⟩) (by assumption) ?_
      rotate_left
      · (intro wx hSw; go_simp; (try with_reducible rfl))
      (try simp only [Act.put, List.getElem_toArray, List.getElem_cons_zero, List.getElem_cons_succ, List.setIfInBounds_toArray, List.set_cons_zero, List.set_cons_succ])
      refine wpAnyH_ready (rs := [9]) (by kernel_rfl) (by simp) ?_
      refine (AllReadyH.cons rfl (fun K hK => ?_) AllReadyH.nil)
      have c0 : v8.cell? ⟨p6, 0, none⟩ = some (.int .i64 0) := HF8.out.at0.cell 0
      have c1 : v8.cell? ⟨p6, 1, none⟩ = some (.int .i64 0) := HF8.out.at0.cell 1
      have f0 := HF8.out.at0.free 0
      have f1 := HF8.out.at0.free 1
      have HE : Hid (Rws w ((v8.setCell ⟨p6, 0, none⟩ (.int .i64 x)).setCell ⟨p6, 1, none⟩ (.int .i64 0)) ((p6, 24, #[.int .i64 x, .int .i64 0]) :: L0)) := Lib.hid (HF8.out.set2 HLp6.out.1 HLp6.out.2 _ _)
      have HN : Hid (Rws w ((v8.setCell ⟨p6, 0, none⟩ (.int .i64 x)).setCell ⟨p6, 1, none⟩ (.int .i64 0)) L0) := Lib.hid HE.out.tail
      go_simp
      refine hK.out _ _ HN (fun hH2 => ?_)
      clear hK K hHeld
      have hHeld := hH2
      clear hH2
      (try simp only [Act.put, List.getElem_toArray, List.getElem_cons_zero, List.getElem_cons_succ, List.setIfInBounds_toArray, List.set_cons_zero, List.set_cons_succ])
      refine wpAnyH_take (i := 10) (v := ?_) rfl (by kernel_rfl) (by kernel_rfl) (by kernel_rfl) (fun _ _ _ h => nomatch h.1) (Or.inl ⟨by rfl, ?_⟩) (by assumption) ?_
      rotate_left
      · (intro wx hSw; go_simp; (try with_reducible rfl))
      (try simp only [Act.put, List.getElem_toArray, List.getElem_cons_zero, List.getElem_cons_succ, List.setIfInBounds_toArray, List.set_cons_zero, List.set_cons_succ])
      refine wpAnyH_done (by kernel_rfl) ?_ _
      exact ⟨rfl, p6, by (simp only [puts, Act.put, List.setIfInBounds_toArray, List.set_cons_zero, List.set_cons_succ]), HE.out⟩
  case hq =>
    rintro p W1 hF
    rw [HL0.out] at hF
    (simp only [puts, Act.put, List.setIfInBounds_toArray, List.set_cons_zero, List.set_cons_succ])
    go_wp2_with fail
    go_ret
    exact ⟨rfl, hF.2⟩

end Go.Proofs.Ytpgclepiagfgfaa
