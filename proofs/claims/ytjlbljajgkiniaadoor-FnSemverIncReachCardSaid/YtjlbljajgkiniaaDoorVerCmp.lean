/- (*Version).Compare. -/
import Derived.Test.YtjlbljajgkiniaaDoorVerGet
import Derived.Deep.RegionHeld3
import Derived.BigQuiet
namespace Go.Proofs.YtjlbljajgkiniaaDoor
open Go.RowKit

/-- Block g is a version. -/
def VerAt (w : World) (g : Nat) (cs : Array Value) : Prop := w.heap[g]? = some (.cells cs 61 (0, 0))

theorem keepD {X : World} {a : Addr} {u : Value} (h : X.cell? a = some u) : X.drew.cell? a = some u := h
theorem keepN {X : World} {n : Nat} {a : Addr} {u : Value} (h : X.cell? a = some u) : (X.drewN n).cell? a = some u := h
theorem keepV {X : World} {o : Obj} {a : Addr} {u : Value} (h : X.cell? a = some u) : (X.alloc o).cell? a = some u := (World.cell?_alloc_some X a o (by rw [h]; rfl)).trans h

/-- The world under a letter: only what lies below it is known. -/
theorem wp_world {P : Program} {c : Code} {Q : Exit → Act → World → Prop} {a : Act} {W w : World} (hB : Below w.heap.size w W) (h : ∀ W1, Below w.heap.size w W1 → Code.wp P c Q a W1) : Code.wp P c Q a W := h W hB

theorem calls_world {P : Program} {f : FuncId} {args : Array Value} {R : Ending → World → Prop} {W w : World} (hB : Below w.heap.size w W) (h : ∀ W1, Below w.heap.size w W1 → Calls P f args W1 R) : Calls P f args W R := h W hB

theorem VerAt.lt {w : World} {g : Nat} {cs : Array Value} (h : VerAt w g cs) : g < w.heap.size := (Array.getElem?_eq_some_iff.1 h).1
theorem VerAt.below {w w' : World} {g : Nat} {cs : Array Value} (h : VerAt w g cs) (hb : Below w.heap.size w w') : VerAt w' g cs := (hb.block g h.lt).trans h
theorem VerAt.cell {w : World} {g : Nat} {cs : Array Value} (h : VerAt w g cs) (i : Nat) : w.cell? ⟨g, i, none⟩ = cs[i]? := cell_of_row w g i cs _ (0, 0) h

/-- The order of two prereleases. -/
def preC (p q : ByteArray) : Int := if p.toList.isEmpty then (if q.toList.isEmpty then 0 else 1) else if q.toList.isEmpty then -1 else preI p q
/-- What Compare gives. -/
def cmpI (a b c : Int) (p : ByteArray) (x y z : Int) (q : ByteArray) : Int :=
  if (segI a x != 0) = true then segI a x else if (segI b y != 0) = true then segI b y else if (segI c z != 0) = true then segI c z else preC p q

theorem cmpI_1 (a b c : Int) (p : ByteArray) (x y z : Int) (q : ByteArray) (h1 : (segI a x != 0) = true) : segI a x = cmpI a b c p x y z q := by unfold cmpI; rw [if_pos h1]
theorem cmpI_2 (a b c : Int) (p : ByteArray) (x y z : Int) (q : ByteArray) (h1 : (segI a x != 0) = false) (h2 : (segI b y != 0) = true) : segI b y = cmpI a b c p x y z q := by unfold cmpI; rw [if_neg (by simp [h1]), if_pos h2]
theorem cmpI_3 (a b c : Int) (p : ByteArray) (x y z : Int) (q : ByteArray) (h1 : (segI a x != 0) = false) (h2 : (segI b y != 0) = false) (h3 : (segI c z != 0) = true) : segI c z = cmpI a b c p x y z q := by unfold cmpI; rw [if_neg (by simp [h1]), if_neg (by simp [h2]), if_pos h3]
theorem cmpI_4 (a b c : Int) (p : ByteArray) (x y z : Int) (q : ByteArray) (h1 : (segI a x != 0) = false) (h2 : (segI b y != 0) = false) (h3 : (segI c z != 0) = false) : preC p q = cmpI a b c p x y z q := by unfold cmpI; rw [if_neg (by simp [h1]), if_neg (by simp [h2]), if_neg (by simp [h3])]

set_option maxRecDepth 100000 in
set_option maxHeartbeats 4000000 in
theorem compare_any (g k : Nat) (a b c x y z : Int) (p m o q n r : ByteArray) (w : World) (hg : VerAt w g (verC a b c p m o)) (hk : VerAt w k (verC x y z q n r)) (hs : p.size ≤ 2147483654) (ho : q.size ≤ 2147483654) (he : Hid (Errs w)) :
    Calls Tryd.prog 43 #[.pointer (some ⟨g, 0, none⟩), .pointer (some ⟨k, 0, none⟩)] w (PartPost (cmpI a b c p x y z q) w) := by
  have c0 : w.cell? ⟨g, 0, none⟩ = some (.int .u64 a) := hg.cell 0
  have c1 : w.cell? ⟨g, 1, none⟩ = some (.int .u64 b) := hg.cell 1
  have c2 : w.cell? ⟨g, 2, none⟩ = some (.int .u64 c) := hg.cell 2
  have c3 : w.cell? ⟨g, 3, none⟩ = some (.string p) := hg.cell 3
  have c4 : w.cell? ⟨g, 4, none⟩ = some (.string m) := hg.cell 4
  have c5 : w.cell? ⟨g, 5, none⟩ = some (.string o) := hg.cell 5
  have d0 : w.cell? ⟨k, 0, none⟩ = some (.int .u64 x) := hk.cell 0
  have d1 : w.cell? ⟨k, 1, none⟩ = some (.int .u64 y) := hk.cell 1
  have d2 : w.cell? ⟨k, 2, none⟩ = some (.int .u64 z) := hk.cell 2
  have d3 : w.cell? ⟨k, 3, none⟩ = some (.string q) := hk.cell 3
  have d4 : w.cell? ⟨k, 4, none⟩ = some (.string n) := hk.cell 4
  have d5 : w.cell? ⟨k, 5, none⟩ = some (.string r) := hk.cell 5
  go_enter Tryd.func43, Tryd.ntmps43
  go_wp2_with fail
  go_region_held3 (fun w' => w'.cell? ⟨g, 0, none⟩ = some (.int .u64 a) ∧ w'.cell? ⟨g, 1, none⟩ = some (.int .u64 b) ∧ w'.cell? ⟨g, 2, none⟩ = some (.int .u64 c) ∧ w'.cell? ⟨g, 3, none⟩ = some (.string p) ∧ w'.cell? ⟨g, 4, none⟩ = some (.string m) ∧ w'.cell? ⟨g, 5, none⟩ = some (.string o) ∧ w'.cell? ⟨k, 0, none⟩ = some (.int .u64 x) ∧ w'.cell? ⟨k, 1, none⟩ = some (.int .u64 y) ∧ w'.cell? ⟨k, 2, none⟩ = some (.int .u64 z) ∧ w'.cell? ⟨k, 3, none⟩ = some (.string q) ∧ w'.cell? ⟨k, 4, none⟩ = some (.string n) ∧ w'.cell? ⟨k, 5, none⟩ = some (.string r)) (first | (refine ⟨?_, ?_, ?_, ?_, ?_, ?_, ?_, ?_, ?_, ?_, ?_, ?_⟩ <;> (repeat (first | assumption | (with_reducible refine keepD ?_) | (with_reducible refine keepN ?_) | (with_reducible refine keepV ?_)))) | go_keep)
    (first | (go_at_call 49; refine (major_any _ _ _ _ _ _ _).mono ?_; rintro e w' ⟨rfl, rfl⟩) | (go_at_call 58; refine (segment_any _ _ _).mono ?_; rintro e w' ⟨rfl, rfl⟩))
  cases h1 : (segI a x != 0) with
  | true =>
    have HE := Lib.hid (cmpI_1 a b c p x y z q h1)
    go_wp2_with fail
    go_ret
    refine ⟨ret_i64 (HE.out), ?_⟩
    exact (by repeat (first | exact Below.refl _ _ | refine below_drewN ?_ _ | refine Below.alloc ?_ (by simp <;> omega) _ | refine Below.drew ?_))
  | false =>
    go_wp2_with fail
    clear c0 c1 c2 c3 c4 c5 d0 d1 d2 d3 d4 d5
    refine wp_world (w := w) (by repeat (first | exact Below.refl _ _ | refine below_drewN ?_ _ | refine Below.alloc ?_ (by simp <;> omega) _ | refine Below.drew ?_)) ?_
    intro w1 b1
    have hg1 := hg.below b1
    have hk1 := hk.below b1
    have c0 : w1.cell? ⟨g, 0, none⟩ = some (.int .u64 a) := hg1.cell 0
    have c1 : w1.cell? ⟨g, 1, none⟩ = some (.int .u64 b) := hg1.cell 1
    have c2 : w1.cell? ⟨g, 2, none⟩ = some (.int .u64 c) := hg1.cell 2
    have c3 : w1.cell? ⟨g, 3, none⟩ = some (.string p) := hg1.cell 3
    have c4 : w1.cell? ⟨g, 4, none⟩ = some (.string m) := hg1.cell 4
    have c5 : w1.cell? ⟨g, 5, none⟩ = some (.string o) := hg1.cell 5
    have d0 : w1.cell? ⟨k, 0, none⟩ = some (.int .u64 x) := hk1.cell 0
    have d1 : w1.cell? ⟨k, 1, none⟩ = some (.int .u64 y) := hk1.cell 1
    have d2 : w1.cell? ⟨k, 2, none⟩ = some (.int .u64 z) := hk1.cell 2
    have d3 : w1.cell? ⟨k, 3, none⟩ = some (.string q) := hk1.cell 3
    have d4 : w1.cell? ⟨k, 4, none⟩ = some (.string n) := hk1.cell 4
    have d5 : w1.cell? ⟨k, 5, none⟩ = some (.string r) := hk1.cell 5
    go_region_held3 (fun w' => w'.cell? ⟨g, 0, none⟩ = some (.int .u64 a) ∧ w'.cell? ⟨g, 1, none⟩ = some (.int .u64 b) ∧ w'.cell? ⟨g, 2, none⟩ = some (.int .u64 c) ∧ w'.cell? ⟨g, 3, none⟩ = some (.string p) ∧ w'.cell? ⟨g, 4, none⟩ = some (.string m) ∧ w'.cell? ⟨g, 5, none⟩ = some (.string o) ∧ w'.cell? ⟨k, 0, none⟩ = some (.int .u64 x) ∧ w'.cell? ⟨k, 1, none⟩ = some (.int .u64 y) ∧ w'.cell? ⟨k, 2, none⟩ = some (.int .u64 z) ∧ w'.cell? ⟨k, 3, none⟩ = some (.string q) ∧ w'.cell? ⟨k, 4, none⟩ = some (.string n) ∧ w'.cell? ⟨k, 5, none⟩ = some (.string r)) (first | (refine ⟨?_, ?_, ?_, ?_, ?_, ?_, ?_, ?_, ?_, ?_, ?_, ?_⟩ <;> (repeat (first | assumption | (with_reducible refine keepD ?_) | (with_reducible refine keepN ?_) | (with_reducible refine keepV ?_)))) | go_keep)
      (first | (go_at_call 50; refine (minor_any _ _ _ _ _ _ _).mono ?_; rintro e w' ⟨rfl, rfl⟩) | (go_at_call 58; refine (segment_any _ _ _).mono ?_; rintro e w' ⟨rfl, rfl⟩))
    cases h2 : (segI b y != 0) with
    | true =>
      have HE := Lib.hid (cmpI_2 a b c p x y z q h1 h2)
      go_wp2_with fail
      go_ret
      refine ⟨ret_i64 (HE.out), Below.trans b1 (Below.mono (B := w1.heap.size) ?_ (Below.size b1))⟩
      exact (by repeat (first | exact Below.refl _ _ | refine below_drewN ?_ _ | refine Below.alloc ?_ (by simp <;> omega) _ | refine Below.drew ?_))
    | false =>
      go_wp2_with fail
      clear c0 c1 c2 c3 c4 c5 d0 d1 d2 d3 d4 d5
      refine wp_world (w := w1) (by repeat (first | exact Below.refl _ _ | refine below_drewN ?_ _ | refine Below.alloc ?_ (by simp <;> omega) _ | refine Below.drew ?_)) ?_
      intro w2 b2
      have hg2 := hg1.below b2
      have hk2 := hk1.below b2
      have c0 : w2.cell? ⟨g, 0, none⟩ = some (.int .u64 a) := hg2.cell 0
      have c1 : w2.cell? ⟨g, 1, none⟩ = some (.int .u64 b) := hg2.cell 1
      have c2 : w2.cell? ⟨g, 2, none⟩ = some (.int .u64 c) := hg2.cell 2
      have c3 : w2.cell? ⟨g, 3, none⟩ = some (.string p) := hg2.cell 3
      have c4 : w2.cell? ⟨g, 4, none⟩ = some (.string m) := hg2.cell 4
      have c5 : w2.cell? ⟨g, 5, none⟩ = some (.string o) := hg2.cell 5
      have d0 : w2.cell? ⟨k, 0, none⟩ = some (.int .u64 x) := hk2.cell 0
      have d1 : w2.cell? ⟨k, 1, none⟩ = some (.int .u64 y) := hk2.cell 1
      have d2 : w2.cell? ⟨k, 2, none⟩ = some (.int .u64 z) := hk2.cell 2
      have d3 : w2.cell? ⟨k, 3, none⟩ = some (.string q) := hk2.cell 3
      have d4 : w2.cell? ⟨k, 4, none⟩ = some (.string n) := hk2.cell 4
      have d5 : w2.cell? ⟨k, 5, none⟩ = some (.string r) := hk2.cell 5
      go_region_held3 (fun w' => w'.cell? ⟨g, 0, none⟩ = some (.int .u64 a) ∧ w'.cell? ⟨g, 1, none⟩ = some (.int .u64 b) ∧ w'.cell? ⟨g, 2, none⟩ = some (.int .u64 c) ∧ w'.cell? ⟨g, 3, none⟩ = some (.string p) ∧ w'.cell? ⟨g, 4, none⟩ = some (.string m) ∧ w'.cell? ⟨g, 5, none⟩ = some (.string o) ∧ w'.cell? ⟨k, 0, none⟩ = some (.int .u64 x) ∧ w'.cell? ⟨k, 1, none⟩ = some (.int .u64 y) ∧ w'.cell? ⟨k, 2, none⟩ = some (.int .u64 z) ∧ w'.cell? ⟨k, 3, none⟩ = some (.string q) ∧ w'.cell? ⟨k, 4, none⟩ = some (.string n) ∧ w'.cell? ⟨k, 5, none⟩ = some (.string r)) (first | (refine ⟨?_, ?_, ?_, ?_, ?_, ?_, ?_, ?_, ?_, ?_, ?_, ?_⟩ <;> (repeat (first | assumption | (with_reducible refine keepD ?_) | (with_reducible refine keepN ?_) | (with_reducible refine keepV ?_)))) | go_keep)
        (first | (go_at_call 51; refine (patch_any _ _ _ _ _ _ _).mono ?_; rintro e w' ⟨rfl, rfl⟩) | (go_at_call 58; refine (segment_any _ _ _).mono ?_; rintro e w' ⟨rfl, rfl⟩))
      cases h3 : (segI c z != 0) with
      | true =>
        have HE := Lib.hid (cmpI_3 a b c p x y z q h1 h2 h3)
        go_wp2_with fail
        go_ret
        refine ⟨ret_i64 (HE.out), Below.trans (Below.trans b1 (b2.mono b1.size)) (Below.mono (B := w2.heap.size) ?_ (Below.size (Below.trans b1 (b2.mono b1.size))))⟩
        exact (by repeat (first | exact Below.refl _ _ | refine below_drewN ?_ _ | refine Below.alloc ?_ (by simp <;> omega) _ | refine Below.drew ?_))
      | false =>
        have HE := Lib.hid (cmpI_4 a b c p x y z q h1 h2 h3)
        clear h1 h2
        go_wp2_with fail
        refine calls_world (w := w2) (by repeat (first | exact Below.refl _ _ | refine below_drewN ?_ _ | refine Below.alloc ?_ (by simp <;> omega) _ | refine Below.drew ?_)) ?_
        intro w3 b3
        refine (pre_any _ _ _ _ _ _ _).mono ?_
        rintro e w' ⟨rfl, rfl⟩
        unfold preC at HE
        cases hp : p.toList.isEmpty with
        | true =>
          have hp1 : p.toList = [] := by simpa using hp
          cases hq : q.toList.isEmpty with
          | true =>
            have hq1 : q.toList = [] := by simpa using hq
            rw [hp, hq] at HE
            go_wp2_with fail
            go_ret
            refine ⟨ret_i64 (HE.out), Below.trans (Below.trans (Below.trans b1 (b2.mono b1.size)) (b3.mono (Below.size (Below.trans b1 (b2.mono b1.size))))) (Below.mono (B := w3.heap.size) ?_ (Below.size (Below.trans (Below.trans b1 (b2.mono b1.size)) (b3.mono (Below.size (Below.trans b1 (b2.mono b1.size)))))))⟩
            exact (by repeat (first | exact Below.refl _ _ | refine below_drewN ?_ _ | refine Below.alloc ?_ (by simp <;> omega) _ | refine Below.drew ?_))
          | false =>
            rw [hp, hq] at HE
            go_wp2_with fail
            go_ret
            refine ⟨ret_i64 (HE.out), Below.trans (Below.trans (Below.trans b1 (b2.mono b1.size)) (b3.mono (Below.size (Below.trans b1 (b2.mono b1.size))))) (Below.mono (B := w3.heap.size) ?_ (Below.size (Below.trans (Below.trans b1 (b2.mono b1.size)) (b3.mono (Below.size (Below.trans b1 (b2.mono b1.size)))))))⟩
            exact (by repeat (first | exact Below.refl _ _ | refine below_drewN ?_ _ | refine Below.alloc ?_ (by simp <;> omega) _ | refine Below.drew ?_))
        | false =>
          cases hq : q.toList.isEmpty with
          | true =>
            have hq1 : q.toList = [] := by simpa using hq
            rw [hp, hq] at HE
            go_wp2_with fail
            go_ret
            refine ⟨ret_i64 (HE.out), Below.trans (Below.trans (Below.trans b1 (b2.mono b1.size)) (b3.mono (Below.size (Below.trans b1 (b2.mono b1.size))))) (Below.mono (B := w3.heap.size) ?_ (Below.size (Below.trans (Below.trans b1 (b2.mono b1.size)) (b3.mono (Below.size (Below.trans b1 (b2.mono b1.size)))))))⟩
            exact (by repeat (first | exact Below.refl _ _ | refine below_drewN ?_ _ | refine Below.alloc ?_ (by simp <;> omega) _ | refine Below.drew ?_))
          | false =>
            rw [hp, hq] at HE
            go_wp2_with fail
            refine (preRel_loop p q hs ho _ (he.below ?_)).mono ?_
            · refine Below.trans (Below.trans (Below.trans b1 (b2.mono b1.size)) (b3.mono (Below.size (Below.trans b1 (b2.mono b1.size))))) (Below.mono (B := w3.heap.size) ?_ (Below.size (Below.trans (Below.trans b1 (b2.mono b1.size)) (b3.mono (Below.size (Below.trans b1 (b2.mono b1.size)))))))
              exact (by repeat (first | exact Below.refl _ _ | refine below_drewN ?_ _ | refine Below.alloc ?_ (by simp <;> omega) _ | refine Below.drew ?_))
            rintro e w' ⟨rfl, hb⟩
            go_wp2_with fail
            go_ret
            refine ⟨ret_i64 HE.out, Below.trans (Below.trans (Below.trans b1 (b2.mono b1.size)) (b3.mono (Below.size (Below.trans b1 (b2.mono b1.size))))) (Below.mono (B := w3.heap.size) (Below.trans ?_ (hb.mono (by simp <;> omega))) (Below.size (Below.trans (Below.trans b1 (b2.mono b1.size)) (b3.mono (Below.size (Below.trans b1 (b2.mono b1.size)))))))⟩
            exact (by repeat (first | exact Below.refl _ _ | refine below_drewN ?_ _ | refine Below.alloc ?_ (by simp <;> omega) _ | refine Below.drew ?_))
end Go.Proofs.YtjlbljajgkiniaaDoor
