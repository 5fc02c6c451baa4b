/- cron.mustParseInt, parseIntOrName of any text; the bounds of the fields with their names. -/
import Derived.Test.YtkhggefbkhdimaaGreatDoorFdU
import Derived.Test.YtkhggefbkhdimaaGreatDoorFdH
import Derived.Test.YtkhggefbkhdimaaGreatDoorGPb
import Derived.Test.YtkhggefbkhdimaaGreatDoorShelf
import Derived.Lib.AtoiAllCases
import Derived.Lib.ConvBytes
import Derived.Lib.BufferOwn
import Derived.Maps.Own
import Derived.Maps.OwnSet
import Derived.Maps.Keyed
import Derived.StringKeys
namespace Go.Proofs.YtkhggefbkhdimaaGreatDoor
open Go.RowKit Go.Shelf Go.Maps Go.WideMaps
set_option linter.unusedVariables false
set_option linter.unusedSimpArgs false

/-- The two variables of strconv's errors hold an interface value each. -/
def Errs (w : World) : Prop :=
  7 < w.heap.size ∧ 8 < w.heap.size ∧
  (∃ ev, w.cell? ⟨7, 0, none⟩ = some ev ∧ (ev = .nilIface ∨ ∃ te pe, ev = .iface te pe)) ∧
  (∃ ev, w.cell? ⟨8, 0, none⟩ = some ev ∧ (ev = .nilIface ∨ ∃ te pe, ev = .iface te pe))

theorem Errs.below {w w' : World} (h : Errs w) (hb : Below w.heap.size w w') : Errs w' := by
  obtain ⟨l1, l2, ⟨e1, c1, k1⟩, ⟨e2, c2, k2⟩⟩ := h
  refine ⟨Nat.lt_of_lt_of_le l1 hb.size, Nat.lt_of_lt_of_le l2 hb.size, ⟨e1, ?_, k1⟩, ⟨e2, ?_, k2⟩⟩
  · exact (hb.cell (p := ⟨7, 0, none⟩) l1).trans c1
  · exact (hb.cell (p := ⟨8, 0, none⟩) l2).trans c2

theorem Errs.drewN {w : World} (h : Errs w) (n : Nat) : Errs (w.drewN n) := h.below (w' := w.drewN n) ⟨rfl, rfl, rfl, Nat.le_refl _, fun _ _ => rfl⟩

def OkU (v : Nat) (w : World) (e : Ending) (w' : World) : Prop := e = .returned (.tuple #[.int .u64 v, .nilIface]) ∧ Below w.heap.size w w'
def ErrU (w : World) (e : Ending) (w' : World) : Prop := (∃ t p, e = .returned (.tuple #[.int .u64 0, .iface t p])) ∧ Below w.heap.size w w'
/-- A number, or an error. -/
def NumR (r : Option Nat) (w : World) (e : Ending) (w' : World) : Prop := match r with | some v => OkU v w e w' | none => ErrU w e w'
theorem NumR.below {r : Option Nat} {w : World} {e : Ending} {w' : World} (h : NumR r w e w') : Below w.heap.size w w' := by
  cases r with
  | some v => exact h.2
  | none => exact h.2
def AtoiErr (w : World) (e : Ending) (w' : World) : Prop := (∃ n t p, e = .returned (.tuple #[.int .i64 n, .iface t p])) ∧ Below w.heap.size w w'
theorem atoi_ok (s : ByteArray) (hs : s.size ≤ 2147483654) (v : Int) (h : Lib.atoiAll s.data.toList = .ok v) (w : World) :
    Calls Tryz.prog 145 #[.string s] w fun e w' => e = .returned (.tuple #[.int .i64 v, .nilIface]) ∧ Below w.heap.size w w' := by
  refine (Tryz.strconv_Atoi_ok s (by omega) v h w).mono ?_
  rintro e w' ⟨rfl, hw⟩
  refine ⟨rfl, ?_⟩
  rcases hw with rfl | ⟨t, rfl⟩
  · exact Below.refl _ _
  · exact ⟨rfl, rfl, rfl, by rw [Lib.bytesWorld_size]; omega, fun i hi => Lib.bytesWorld_at_old w _ _ i hi⟩
theorem atoi_bad (s : ByteArray) (hs : s.size ≤ 2147483654) (h : ∀ v, Lib.atoiAll s.data.toList ≠ .ok v) (w : World) (he : Errs w) :
    Calls Tryz.prog 145 #[.string s] w (AtoiErr w) := by
  obtain ⟨_, _, ⟨e1, c1, k1⟩, ⟨e2, c2, k2⟩⟩ := he
  cases hp : Lib.atoiAll s.data.toList
  · exact absurd hp (h _)
  · refine (Tryz.strconv_Atoi_syntax s (by omega) hp e1 w c1 k1).mono ?_
    rintro e w' ⟨N, rfl, _, _, hb⟩
    exact ⟨⟨_, _, _, rfl⟩, hb⟩
  · refine (Tryz.strconv_Atoi_range s (by omega) hp e2 w c2 k2).mono ?_
    rintro e w' ⟨N, rfl, _, _, hb⟩
    exact ⟨⟨_, _, _, rfl⟩, hb⟩
set_option maxHeartbeats 400000 in
theorem errNew_any (s : ByteArray) (w : World) :
    Calls Tryz.prog 61 #[.string s] w fun e w' => (∃ t p, e = .returned (.iface t p)) ∧ w' = w.alloc (.cells #[.string s] 148) := by
  go_enter Tryz.func61, Tryz.ntmps61
  go_wp2_with fail
  go_ret
  exact ⟨⟨_, _, rfl⟩, rfl⟩
set_option maxHeartbeats 1000000 in
theorem mustInt_any (s : ByteArray) (hs : s.size ≤ 2147483654) (w : World) (he : Hid (Errs w)) :
    Calls Tryz.prog 128 #[.string s] w (NumR (mustI s.data.toList) w) := by
  cases hp : Lib.atoiAll s.data.toList with
  | ok v =>
    have hb := Lib.atoiAll_bounds hp
    have HP := Lib.hid hp
    by_cases hv : v < 0
    · have HR : Hid (mustI s.data.toList = none) := Lib.hid (by unfold mustI; rw [hp]; dsimp only; rw [if_pos hv])
      rw [HR.out]
      clear hp
      go_enter Tryz.func128, Tryz.ntmps128
      go_wp2_with fail
      refine (atoi_ok s hs v HP.out _).mono ?_
      rintro e w' ⟨rfl, hbb⟩
      go_wp2_with fail
      refine (errNew_any _ _).mono ?_
      rintro e w9 ⟨⟨t, p, rfl⟩, rfl⟩
      go_wp2_with fail
      refine bodyPost_ret (v := .tuple #[.int .u64 0, .iface t p]) (by simp [results, Tryz.results128, go_sem]) rfl ⟨⟨t, p, rfl⟩, ?_⟩
      exact hbb.alloc hbb.size _
    · have HR : Hid (mustI s.data.toList = some v.toNat) := Lib.hid (by unfold mustI; rw [hp]; dsimp only; rw [if_neg hv])
      rw [HR.out]
      obtain ⟨n, hn⟩ : ∃ n : Nat, v = n := ⟨v.toNat, by omega⟩
      subst hn
      have hn9 : n ≤ 9223372036854775807 := by omega
      clear hp hb hv
      go_enter Tryz.func128, Tryz.ntmps128
      go_wp2_with fail
      refine (atoi_ok s hs n HP.out _).mono ?_
      rintro e w' ⟨rfl, hbb⟩
      go_wp2_with fail
      refine bodyPost_ret (v := .tuple #[.int .u64 n, .nilIface]) (by simp [results, Tryz.results128, go_sem]) rfl ⟨by rw [Int.toNat_natCast], hbb⟩
  | _ =>
    have HR : Hid (mustI s.data.toList = none) := Lib.hid (by unfold mustI; rw [hp])
    have HA : Hid (∀ v, Lib.atoiAll s.data.toList ≠ .ok v) := Lib.hid (by rw [hp]; intro v h; cases h)
    rw [HR.out]
    clear hp
    go_enter Tryz.func128, Tryz.ntmps128
    go_wp2_with fail
    refine (atoi_bad s hs HA.out _ he.out).mono ?_
    rintro e w' ⟨⟨n, t0, p0, rfl⟩, hbb⟩
    go_wp2_with fail
    refine (errNew_any _ _).mono ?_
    rintro e w9 ⟨⟨t, p, rfl⟩, rfl⟩
    go_wp2_with fail
    refine bodyPost_ret (v := .tuple #[.int .u64 0, .iface t p]) (by simp [results, Tryz.results128, go_sem]) rfl ⟨⟨t, p, rfl⟩, ?_⟩
    exact hbb.alloc hbb.size _

theorem lawStr : Keyed Tryz.prog 9 := string_keyed Tryz.underlying9
/-- What a field's names are in memory. -/
def NamesAt (k : Nat) (M : Option Nat) (W : World) : Prop := if k = 4 ∨ k = 5 then ∃ b n, M = some b ∧ W.ownsMap (H := Unit) Tryz.prog 9 (plainElem Tryz.prog 124) b n (nameMap k) else M = none
theorem NamesAt.below {k : Nat} {M : Option Nat} {W W' : World} (h : NamesAt k M W) (hb : Below W.heap.size W W') : NamesAt k M W' := by
  unfold NamesAt at h ⊢
  split
  · rename_i hk
    rw [if_pos hk] at h
    obtain ⟨b, n, hM, ho⟩ := h
    exact ⟨b, n, hM, ho.kept (row := none) ⟨hb.os, hb.tape, hb.output, hb.size, fun i hi _ => hb.block i hi⟩ (by simp)⟩
  · rename_i hk
    rw [if_neg hk] at h
    exact h
def BoundsR (k : Nat) (w : World) (e : Ending) (w' : World) : Prop := ∃ M : Option Nat, e = .returned (.agg #[.int .u64 (loK k : Nat), .int .u64 (hiK k : Nat), .map M]) ∧ NamesAt k M w' ∧ Below w.heap.size w w'
set_option maxRecDepth 100000 in
set_option maxHeartbeats 4000000 in
theorem months_any (w : World) : Calls Tryz.prog 75 #[] w (BoundsR 4 w) := by
  have hmm := @run_makeMap Tryz.prog
  go_enter Tryz.func75, Tryz.ntmps75
  go_wp2_with fail
  have hown0 : ((w.alloc (.cells #[.int .u64 0, .int .u64 0, .map none] 127)).alloc (.map #[] 0)).ownsMap (H := Unit) Tryz.prog 9 (plainElem Tryz.prog 124) (w.heap.size + 1) 0 (.map []) := by
    have := World.ownsMap_made (H := Unit) (w.alloc (.cells #[.int .u64 0, .int .u64 0, .map none] 127)) Tryz.prog 9 (plainElem Tryz.prog 124)
    simpa using this
  have c0 : ((w.alloc (.cells #[.int .u64 0, .int .u64 0, .map none] 127)).alloc (.map #[] 0)).heap[w.heap.size]? = some (.cells #[.int .u64 0, .int .u64 0, .map none] 127) := by
    rw [Below.heap_alloc _ _ _ (by simp)]; exact heap_alloc_new w _
  have bk : Below w.heap.size w ((w.alloc (.cells #[.int .u64 0, .int .u64 0, .map none] 127)).alloc (.map #[] 0)) := (by repeat (first | (with_reducible assumption) | (with_reducible exact Below.refl _ _) | (with_reducible refine below_drewN ?_ _) | (with_reducible refine Below.drew ?_) | (with_reducible refine Below.setCell ?_ (by first | omega | (simp <;> omega)) _) | (with_reducible refine Below.alloc ?_ (by first | omega | (simp <;> omega)) _)))
  generalize (w.alloc (.cells #[.int .u64 0, .int .u64 0, .map none] 127)).alloc (.map #[] 0) = W0 at *
  obtain ⟨W1, r1, hown1, hg1⟩ := hown0.update lawStr Tryz.underlying125 (by unfold maxLen; omega) (key := .string ⟨#[106, 97, 110]⟩) (val := .int .u64 1) (keyOf_string_mk Tryz.underlying9 (by decide)) (plainElem_int Tryz.underlying124 (by decide))
  replace c0 : W1.heap[w.heap.size]? = some (.cells #[.int .u64 0, .int .u64 0, .map none] 127) := (hg1.block _ (Array.getElem?_eq_some_iff.1 c0).1 (by intro h; injection h with h; omega)).trans c0
  replace bk : Below w.heap.size w W1 := Below.grown bk hg1 bk.size (fun k hk => by cases hk; omega)
  obtain ⟨W2, r2, hown2, hg2⟩ := hown1.update lawStr Tryz.underlying125 (by unfold maxLen; omega) (key := .string ⟨#[102, 101, 98]⟩) (val := .int .u64 2) (keyOf_string_mk Tryz.underlying9 (by decide)) (plainElem_int Tryz.underlying124 (by decide))
  replace c0 : W2.heap[w.heap.size]? = some (.cells #[.int .u64 0, .int .u64 0, .map none] 127) := (hg2.block _ (Array.getElem?_eq_some_iff.1 c0).1 (by intro h; injection h with h; omega)).trans c0
  replace bk : Below w.heap.size w W2 := Below.grown bk hg2 bk.size (fun k hk => by cases hk; omega)
  obtain ⟨W3, r3, hown3, hg3⟩ := hown2.update lawStr Tryz.underlying125 (by unfold maxLen; omega) (key := .string ⟨#[109, 97, 114]⟩) (val := .int .u64 3) (keyOf_string_mk Tryz.underlying9 (by decide)) (plainElem_int Tryz.underlying124 (by decide))
  replace c0 : W3.heap[w.heap.size]? = some (.cells #[.int .u64 0, .int .u64 0, .map none] 127) := (hg3.block _ (Array.getElem?_eq_some_iff.1 c0).1 (by intro h; injection h with h; omega)).trans c0
  replace bk : Below w.heap.size w W3 := Below.grown bk hg3 bk.size (fun k hk => by cases hk; omega)
  obtain ⟨W4, r4, hown4, hg4⟩ := hown3.update lawStr Tryz.underlying125 (by unfold maxLen; omega) (key := .string ⟨#[97, 112, 114]⟩) (val := .int .u64 4) (keyOf_string_mk Tryz.underlying9 (by decide)) (plainElem_int Tryz.underlying124 (by decide))
  replace c0 : W4.heap[w.heap.size]? = some (.cells #[.int .u64 0, .int .u64 0, .map none] 127) := (hg4.block _ (Array.getElem?_eq_some_iff.1 c0).1 (by intro h; injection h with h; omega)).trans c0
  replace bk : Below w.heap.size w W4 := Below.grown bk hg4 bk.size (fun k hk => by cases hk; omega)
  obtain ⟨W5, r5, hown5, hg5⟩ := hown4.update lawStr Tryz.underlying125 (by unfold maxLen; omega) (key := .string ⟨#[109, 97, 121]⟩) (val := .int .u64 5) (keyOf_string_mk Tryz.underlying9 (by decide)) (plainElem_int Tryz.underlying124 (by decide))
  replace c0 : W5.heap[w.heap.size]? = some (.cells #[.int .u64 0, .int .u64 0, .map none] 127) := (hg5.block _ (Array.getElem?_eq_some_iff.1 c0).1 (by intro h; injection h with h; omega)).trans c0
  replace bk : Below w.heap.size w W5 := Below.grown bk hg5 bk.size (fun k hk => by cases hk; omega)
  obtain ⟨W6, r6, hown6, hg6⟩ := hown5.update lawStr Tryz.underlying125 (by unfold maxLen; omega) (key := .string ⟨#[106, 117, 110]⟩) (val := .int .u64 6) (keyOf_string_mk Tryz.underlying9 (by decide)) (plainElem_int Tryz.underlying124 (by decide))
  replace c0 : W6.heap[w.heap.size]? = some (.cells #[.int .u64 0, .int .u64 0, .map none] 127) := (hg6.block _ (Array.getElem?_eq_some_iff.1 c0).1 (by intro h; injection h with h; omega)).trans c0
  replace bk : Below w.heap.size w W6 := Below.grown bk hg6 bk.size (fun k hk => by cases hk; omega)
  obtain ⟨W7, r7, hown7, hg7⟩ := hown6.update lawStr Tryz.underlying125 (by unfold maxLen; omega) (key := .string ⟨#[106, 117, 108]⟩) (val := .int .u64 7) (keyOf_string_mk Tryz.underlying9 (by decide)) (plainElem_int Tryz.underlying124 (by decide))
  replace c0 : W7.heap[w.heap.size]? = some (.cells #[.int .u64 0, .int .u64 0, .map none] 127) := (hg7.block _ (Array.getElem?_eq_some_iff.1 c0).1 (by intro h; injection h with h; omega)).trans c0
  replace bk : Below w.heap.size w W7 := Below.grown bk hg7 bk.size (fun k hk => by cases hk; omega)
  obtain ⟨W8, r8, hown8, hg8⟩ := hown7.update lawStr Tryz.underlying125 (by unfold maxLen; omega) (key := .string ⟨#[97, 117, 103]⟩) (val := .int .u64 8) (keyOf_string_mk Tryz.underlying9 (by decide)) (plainElem_int Tryz.underlying124 (by decide))
  replace c0 : W8.heap[w.heap.size]? = some (.cells #[.int .u64 0, .int .u64 0, .map none] 127) := (hg8.block _ (Array.getElem?_eq_some_iff.1 c0).1 (by intro h; injection h with h; omega)).trans c0
  replace bk : Below w.heap.size w W8 := Below.grown bk hg8 bk.size (fun k hk => by cases hk; omega)
  obtain ⟨W9, r9, hown9, hg9⟩ := hown8.update lawStr Tryz.underlying125 (by unfold maxLen; omega) (key := .string ⟨#[115, 101, 112]⟩) (val := .int .u64 9) (keyOf_string_mk Tryz.underlying9 (by decide)) (plainElem_int Tryz.underlying124 (by decide))
  replace c0 : W9.heap[w.heap.size]? = some (.cells #[.int .u64 0, .int .u64 0, .map none] 127) := (hg9.block _ (Array.getElem?_eq_some_iff.1 c0).1 (by intro h; injection h with h; omega)).trans c0
  replace bk : Below w.heap.size w W9 := Below.grown bk hg9 bk.size (fun k hk => by cases hk; omega)
  obtain ⟨W10, r10, hown10, hg10⟩ := hown9.update lawStr Tryz.underlying125 (by unfold maxLen; omega) (key := .string ⟨#[111, 99, 116]⟩) (val := .int .u64 10) (keyOf_string_mk Tryz.underlying9 (by decide)) (plainElem_int Tryz.underlying124 (by decide))
  replace c0 : W10.heap[w.heap.size]? = some (.cells #[.int .u64 0, .int .u64 0, .map none] 127) := (hg10.block _ (Array.getElem?_eq_some_iff.1 c0).1 (by intro h; injection h with h; omega)).trans c0
  replace bk : Below w.heap.size w W10 := Below.grown bk hg10 bk.size (fun k hk => by cases hk; omega)
  obtain ⟨W11, r11, hown11, hg11⟩ := hown10.update lawStr Tryz.underlying125 (by unfold maxLen; omega) (key := .string ⟨#[110, 111, 118]⟩) (val := .int .u64 11) (keyOf_string_mk Tryz.underlying9 (by decide)) (plainElem_int Tryz.underlying124 (by decide))
  replace c0 : W11.heap[w.heap.size]? = some (.cells #[.int .u64 0, .int .u64 0, .map none] 127) := (hg11.block _ (Array.getElem?_eq_some_iff.1 c0).1 (by intro h; injection h with h; omega)).trans c0
  replace bk : Below w.heap.size w W11 := Below.grown bk hg11 bk.size (fun k hk => by cases hk; omega)
  obtain ⟨W12, r12, hown12, hg12⟩ := hown11.update lawStr Tryz.underlying125 (by unfold maxLen; omega) (key := .string ⟨#[100, 101, 99]⟩) (val := .int .u64 12) (keyOf_string_mk Tryz.underlying9 (by decide)) (plainElem_int Tryz.underlying124 (by decide))
  replace c0 : W12.heap[w.heap.size]? = some (.cells #[.int .u64 0, .int .u64 0, .map none] 127) := (hg12.block _ (Array.getElem?_eq_some_iff.1 c0).1 (by intro h; injection h with h; omega)).trans c0
  replace bk : Below w.heap.size w W12 := Below.grown bk hg12 bk.size (fun k hk => by cases hk; omega)
  have k0 : W12.cell? ⟨w.heap.size, 0, none⟩ = some (.int .u64 0) := cell_of_row _ _ 0 _ _ (0, 0) c0
  have f0 : W12.frozen? ⟨w.heap.size, 0, none⟩ = false := by simp [World.frozen?, c0]
  have k1 : W12.cell? ⟨w.heap.size, 1, none⟩ = some (.int .u64 0) := cell_of_row _ _ 1 _ _ (0, 0) c0
  have f1 : W12.frozen? ⟨w.heap.size, 1, none⟩ = false := by simp [World.frozen?, c0]
  have k2 : W12.cell? ⟨w.heap.size, 2, none⟩ = some (.map none) := cell_of_row _ _ 2 _ _ (0, 0) c0
  have f2 : W12.frozen? ⟨w.heap.size, 2, none⟩ = false := by simp [World.frozen?, c0]
  have nk : w.heap.size ≤ W12.heap.size := bk.size
  have HO : Hid (W12.ownsMap (H := Unit) Tryz.prog 9 (plainElem Tryz.prog 124) (w.heap.size + 1) 12 (nameMap 4)) := Lib.hid hown12
  go_wp2_with fail
  refine bodyPost_ret (v := .agg #[.int .u64 1, .int .u64 12, .map (some (w.heap.size + 1))]) ?_ rfl ⟨_, rfl, ?_, ?_⟩
  · simp [results, Tryz.results75, go_sem, k0, k1, k2]
  · unfold NamesAt
    rw [if_pos (by decide)]
    refine ⟨_, _, rfl, HO.out.kept (row := some w.heap.size) ?_ (by simp)⟩
    exact Lib.grownBy_setB (Lib.grownBy_setB (Lib.grownBy_setB (World.grownBy.refl _ _) 0 _) 1 _) 2 _
  · exact (by repeat (first | (with_reducible assumption) | (with_reducible exact Below.refl _ _) | (with_reducible refine below_drewN ?_ _) | (with_reducible refine Below.drew ?_) | (with_reducible refine Below.setCell ?_ (by first | omega | (simp <;> omega)) _) | (with_reducible refine Below.alloc ?_ (by first | omega | (simp <;> omega)) _)))

set_option maxRecDepth 100000 in
set_option maxHeartbeats 4000000 in
theorem dow_any (w : World) : Calls Tryz.prog 76 #[] w (BoundsR 5 w) := by
  have hmm := @run_makeMap Tryz.prog
  go_enter Tryz.func76, Tryz.ntmps76
  go_wp2_with fail
  have hown0 : ((w.alloc (.cells #[.int .u64 0, .int .u64 0, .map none] 127)).alloc (.map #[] 0)).ownsMap (H := Unit) Tryz.prog 9 (plainElem Tryz.prog 124) (w.heap.size + 1) 0 (.map []) := by
    have := World.ownsMap_made (H := Unit) (w.alloc (.cells #[.int .u64 0, .int .u64 0, .map none] 127)) Tryz.prog 9 (plainElem Tryz.prog 124)
    simpa using this
  have c0 : ((w.alloc (.cells #[.int .u64 0, .int .u64 0, .map none] 127)).alloc (.map #[] 0)).heap[w.heap.size]? = some (.cells #[.int .u64 0, .int .u64 0, .map none] 127) := by
    rw [Below.heap_alloc _ _ _ (by simp)]; exact heap_alloc_new w _
  have bk : Below w.heap.size w ((w.alloc (.cells #[.int .u64 0, .int .u64 0, .map none] 127)).alloc (.map #[] 0)) := (by repeat (first | (with_reducible assumption) | (with_reducible exact Below.refl _ _) | (with_reducible refine below_drewN ?_ _) | (with_reducible refine Below.drew ?_) | (with_reducible refine Below.setCell ?_ (by first | omega | (simp <;> omega)) _) | (with_reducible refine Below.alloc ?_ (by first | omega | (simp <;> omega)) _)))
  generalize (w.alloc (.cells #[.int .u64 0, .int .u64 0, .map none] 127)).alloc (.map #[] 0) = W0 at *
  obtain ⟨W1, r1, hown1, hg1⟩ := hown0.update lawStr Tryz.underlying125 (by unfold maxLen; omega) (key := .string ⟨#[115, 117, 110]⟩) (val := .int .u64 0) (keyOf_string_mk Tryz.underlying9 (by decide)) (plainElem_int Tryz.underlying124 (by decide))
  replace c0 : W1.heap[w.heap.size]? = some (.cells #[.int .u64 0, .int .u64 0, .map none] 127) := (hg1.block _ (Array.getElem?_eq_some_iff.1 c0).1 (by intro h; injection h with h; omega)).trans c0
  replace bk : Below w.heap.size w W1 := Below.grown bk hg1 bk.size (fun k hk => by cases hk; omega)
  obtain ⟨W2, r2, hown2, hg2⟩ := hown1.update lawStr Tryz.underlying125 (by unfold maxLen; omega) (key := .string ⟨#[109, 111, 110]⟩) (val := .int .u64 1) (keyOf_string_mk Tryz.underlying9 (by decide)) (plainElem_int Tryz.underlying124 (by decide))
  replace c0 : W2.heap[w.heap.size]? = some (.cells #[.int .u64 0, .int .u64 0, .map none] 127) := (hg2.block _ (Array.getElem?_eq_some_iff.1 c0).1 (by intro h; injection h with h; omega)).trans c0
  replace bk : Below w.heap.size w W2 := Below.grown bk hg2 bk.size (fun k hk => by cases hk; omega)
  obtain ⟨W3, r3, hown3, hg3⟩ := hown2.update lawStr Tryz.underlying125 (by unfold maxLen; omega) (key := .string ⟨#[116, 117, 101]⟩) (val := .int .u64 2) (keyOf_string_mk Tryz.underlying9 (by decide)) (plainElem_int Tryz.underlying124 (by decide))
  replace c0 : W3.heap[w.heap.size]? = some (.cells #[.int .u64 0, .int .u64 0, .map none] 127) := (hg3.block _ (Array.getElem?_eq_some_iff.1 c0).1 (by intro h; injection h with h; omega)).trans c0
  replace bk : Below w.heap.size w W3 := Below.grown bk hg3 bk.size (fun k hk => by cases hk; omega)
  obtain ⟨W4, r4, hown4, hg4⟩ := hown3.update lawStr Tryz.underlying125 (by unfold maxLen; omega) (key := .string ⟨#[119, 101, 100]⟩) (val := .int .u64 3) (keyOf_string_mk Tryz.underlying9 (by decide)) (plainElem_int Tryz.underlying124 (by decide))
  replace c0 : W4.heap[w.heap.size]? = some (.cells #[.int .u64 0, .int .u64 0, .map none] 127) := (hg4.block _ (Array.getElem?_eq_some_iff.1 c0).1 (by intro h; injection h with h; omega)).trans c0
  replace bk : Below w.heap.size w W4 := Below.grown bk hg4 bk.size (fun k hk => by cases hk; omega)
  obtain ⟨W5, r5, hown5, hg5⟩ := hown4.update lawStr Tryz.underlying125 (by unfold maxLen; omega) (key := .string ⟨#[116, 104, 117]⟩) (val := .int .u64 4) (keyOf_string_mk Tryz.underlying9 (by decide)) (plainElem_int Tryz.underlying124 (by decide))
  replace c0 : W5.heap[w.heap.size]? = some (.cells #[.int .u64 0, .int .u64 0, .map none] 127) := (hg5.block _ (Array.getElem?_eq_some_iff.1 c0).1 (by intro h; injection h with h; omega)).trans c0
  replace bk : Below w.heap.size w W5 := Below.grown bk hg5 bk.size (fun k hk => by cases hk; omega)
  obtain ⟨W6, r6, hown6, hg6⟩ := hown5.update lawStr Tryz.underlying125 (by unfold maxLen; omega) (key := .string ⟨#[102, 114, 105]⟩) (val := .int .u64 5) (keyOf_string_mk Tryz.underlying9 (by decide)) (plainElem_int Tryz.underlying124 (by decide))
  replace c0 : W6.heap[w.heap.size]? = some (.cells #[.int .u64 0, .int .u64 0, .map none] 127) := (hg6.block _ (Array.getElem?_eq_some_iff.1 c0).1 (by intro h; injection h with h; omega)).trans c0
  replace bk : Below w.heap.size w W6 := Below.grown bk hg6 bk.size (fun k hk => by cases hk; omega)
  obtain ⟨W7, r7, hown7, hg7⟩ := hown6.update lawStr Tryz.underlying125 (by unfold maxLen; omega) (key := .string ⟨#[115, 97, 116]⟩) (val := .int .u64 6) (keyOf_string_mk Tryz.underlying9 (by decide)) (plainElem_int Tryz.underlying124 (by decide))
  replace c0 : W7.heap[w.heap.size]? = some (.cells #[.int .u64 0, .int .u64 0, .map none] 127) := (hg7.block _ (Array.getElem?_eq_some_iff.1 c0).1 (by intro h; injection h with h; omega)).trans c0
  replace bk : Below w.heap.size w W7 := Below.grown bk hg7 bk.size (fun k hk => by cases hk; omega)
  have k0 : W7.cell? ⟨w.heap.size, 0, none⟩ = some (.int .u64 0) := cell_of_row _ _ 0 _ _ (0, 0) c0
  have f0 : W7.frozen? ⟨w.heap.size, 0, none⟩ = false := by simp [World.frozen?, c0]
  have k1 : W7.cell? ⟨w.heap.size, 1, none⟩ = some (.int .u64 0) := cell_of_row _ _ 1 _ _ (0, 0) c0
  have f1 : W7.frozen? ⟨w.heap.size, 1, none⟩ = false := by simp [World.frozen?, c0]
  have k2 : W7.cell? ⟨w.heap.size, 2, none⟩ = some (.map none) := cell_of_row _ _ 2 _ _ (0, 0) c0
  have f2 : W7.frozen? ⟨w.heap.size, 2, none⟩ = false := by simp [World.frozen?, c0]
  have nk : w.heap.size ≤ W7.heap.size := bk.size
  have HO : Hid (W7.ownsMap (H := Unit) Tryz.prog 9 (plainElem Tryz.prog 124) (w.heap.size + 1) 7 (nameMap 5)) := Lib.hid hown7
  go_wp2_with fail
  refine bodyPost_ret (v := .agg #[.int .u64 0, .int .u64 6, .map (some (w.heap.size + 1))]) ?_ rfl ⟨_, rfl, ?_, ?_⟩
  · simp [results, Tryz.results76, go_sem, k0, k1, k2]
  · unfold NamesAt
    rw [if_pos (by decide)]
    refine ⟨_, _, rfl, HO.out.kept (row := some w.heap.size) ?_ (by simp)⟩
    exact Lib.grownBy_setB (Lib.grownBy_setB (Lib.grownBy_setB (World.grownBy.refl _ _) 0 _) 1 _) 2 _
  · exact (by repeat (first | (with_reducible assumption) | (with_reducible exact Below.refl _ _) | (with_reducible refine below_drewN ?_ _) | (with_reducible refine Below.drew ?_) | (with_reducible refine Below.setCell ?_ (by first | omega | (simp <;> omega)) _) | (with_reducible refine Below.alloc ?_ (by first | omega | (simp <;> omega)) _)))

set_option maxRecDepth 100000 in
set_option maxHeartbeats 1000000 in
theorem seconds_any (w : World) : Calls Tryz.prog 71 #[] w (BoundsR 0 w) := by
  go_enter Tryz.func71, Tryz.ntmps71
  go_wp2_with fail
  refine bodyPost_ret (v := .agg #[.int .u64 0, .int .u64 59, .map none]) (by simp [results, Tryz.results71, go_sem]) rfl ⟨_, rfl, rfl, ?_⟩
  exact (by repeat (first | (with_reducible assumption) | (with_reducible exact Below.refl _ _) | (with_reducible refine below_drewN ?_ _) | (with_reducible refine Below.drew ?_) | (with_reducible refine Below.setCell ?_ (by first | omega | (simp <;> omega)) _) | (with_reducible refine Below.alloc ?_ (by first | omega | (simp <;> omega)) _)))
set_option maxRecDepth 100000 in
set_option maxHeartbeats 1000000 in
theorem minutes_any (w : World) : Calls Tryz.prog 72 #[] w (BoundsR 1 w) := by
  go_enter Tryz.func72, Tryz.ntmps72
  go_wp2_with fail
  refine bodyPost_ret (v := .agg #[.int .u64 0, .int .u64 59, .map none]) (by simp [results, Tryz.results72, go_sem]) rfl ⟨_, rfl, rfl, ?_⟩
  exact (by repeat (first | (with_reducible assumption) | (with_reducible exact Below.refl _ _) | (with_reducible refine below_drewN ?_ _) | (with_reducible refine Below.drew ?_) | (with_reducible refine Below.setCell ?_ (by first | omega | (simp <;> omega)) _) | (with_reducible refine Below.alloc ?_ (by first | omega | (simp <;> omega)) _)))
set_option maxRecDepth 100000 in
set_option maxHeartbeats 1000000 in
theorem hours_any (w : World) : Calls Tryz.prog 73 #[] w (BoundsR 2 w) := by
  go_enter Tryz.func73, Tryz.ntmps73
  go_wp2_with fail
  refine bodyPost_ret (v := .agg #[.int .u64 0, .int .u64 23, .map none]) (by simp [results, Tryz.results73, go_sem]) rfl ⟨_, rfl, rfl, ?_⟩
  exact (by repeat (first | (with_reducible assumption) | (with_reducible exact Below.refl _ _) | (with_reducible refine below_drewN ?_ _) | (with_reducible refine Below.drew ?_) | (with_reducible refine Below.setCell ?_ (by first | omega | (simp <;> omega)) _) | (with_reducible refine Below.alloc ?_ (by first | omega | (simp <;> omega)) _)))
set_option maxRecDepth 100000 in
set_option maxHeartbeats 1000000 in
theorem dom_any (w : World) : Calls Tryz.prog 74 #[] w (BoundsR 3 w) := by
  go_enter Tryz.func74, Tryz.ntmps74
  go_wp2_with fail
  refine bodyPost_ret (v := .agg #[.int .u64 1, .int .u64 31, .map none]) (by simp [results, Tryz.results74, go_sem]) rfl ⟨_, rfl, rfl, ?_⟩
  exact (by repeat (first | (with_reducible assumption) | (with_reducible exact Below.refl _ _) | (with_reducible refine below_drewN ?_ _) | (with_reducible refine Below.drew ?_) | (with_reducible refine Below.setCell ?_ (by first | omega | (simp <;> omega)) _) | (with_reducible refine Below.alloc ?_ (by first | omega | (simp <;> omega)) _)))
set_option maxRecDepth 100000 in
set_option maxHeartbeats 1000000 in
theorem bounds_0 (w : World) : Calls Tryz.prog 78 #[.int .i64 0] w (BoundsR 0 w) := by
  go_enter Tryz.func78, Tryz.ntmps78
  go_wp2_with fail
  have e0 : (w.alloc (.cells #[.int .u64 0, .int .u64 0, .map none] 127)).heap[w.heap.size]? = some (.cells #[.int .u64 0, .int .u64 0, .map none] 127) := heap_alloc_new w _
  have hw0 : Below w.heap.size w (w.alloc (.cells #[.int .u64 0, .int .u64 0, .map none] 127)) := (by repeat (first | (with_reducible assumption) | (with_reducible exact Below.refl _ _) | (with_reducible refine below_drewN ?_ _) | (with_reducible refine Below.drew ?_) | (with_reducible refine Below.setCell ?_ (by first | omega | (simp <;> omega)) _) | (with_reducible refine Below.alloc ?_ (by first | omega | (simp <;> omega)) _)))
  refine (seconds_any _).mono ?_
  rintro e w' ⟨M, rfl, hM, hb⟩
  have HM := Lib.hid hM
  have c0 : w'.heap[w.heap.size]? = some (.cells #[.int .u64 0, .int .u64 0, .map none] 127) := (hb.block _ (by simp)).trans e0
  have bk : Below w.heap.size w w' := hw0.trans (hb.mono hw0.size)
  have nk : w.heap.size ≤ w'.heap.size := bk.size
  have hMb : Hid (∀ b, M = some b → b ≠ w.heap.size) := Lib.hid (by
    intro b hb2 hb3
    subst hb3
    have h9 := HM.out
    unfold NamesAt at h9
    split at h9
    · obtain ⟨b2, n2, h1, h2⟩ := h9
      rw [hb2] at h1
      injection h1 with h1
      subst h1
      obtain ⟨es, clock, h3, _⟩ := h2
      rw [c0] at h3
      cases h3
    · rw [hb2] at h9; cases h9)
  clear e0 hw0 hb hM
  have k0 : w'.cell? ⟨w.heap.size, 0, none⟩ = some (.int .u64 0) := cell_of_row _ _ 0 _ _ (0, 0) c0
  have f0 : w'.frozen? ⟨w.heap.size, 0, none⟩ = false := by simp [World.frozen?, c0]
  have k1 : w'.cell? ⟨w.heap.size, 1, none⟩ = some (.int .u64 0) := cell_of_row _ _ 1 _ _ (0, 0) c0
  have f1 : w'.frozen? ⟨w.heap.size, 1, none⟩ = false := by simp [World.frozen?, c0]
  have k2 : w'.cell? ⟨w.heap.size, 2, none⟩ = some (.map none) := cell_of_row _ _ 2 _ _ (0, 0) c0
  have f2 : w'.frozen? ⟨w.heap.size, 2, none⟩ = false := by simp [World.frozen?, c0]
  simp only [loK, hiK]
  go_wp2_with fail
  refine bodyPost_ret (v := .agg #[.int .u64 0, .int .u64 59, .map M]) ?_ rfl ⟨_, rfl, ?_, ?_⟩
  · simp [results, Tryz.results78, go_sem, k0, k1, k2]
  · have h9 := HM.out
    unfold NamesAt at h9 ⊢
    split
    · rename_i hk
      rw [if_pos hk] at h9
      obtain ⟨b2, n2, h1, h2⟩ := h9
      refine ⟨b2, n2, h1, h2.kept (row := some w.heap.size) ?_ (by intro h; injection h with h; exact hMb.out b2 h1 h)⟩
      exact Lib.grownBy_setB (Lib.grownBy_setB (Lib.grownBy_setB (World.grownBy.refl _ _) 0 _) 1 _) 2 _
    · rename_i hk
      rw [if_neg hk] at h9
      exact h9
  · exact (by repeat (first | (with_reducible assumption) | (with_reducible exact Below.refl _ _) | (with_reducible refine below_drewN ?_ _) | (with_reducible refine Below.drew ?_) | (with_reducible refine Below.setCell ?_ (by first | omega | (simp <;> omega)) _) | (with_reducible refine Below.alloc ?_ (by first | omega | (simp <;> omega)) _)))
set_option maxRecDepth 100000 in
set_option maxHeartbeats 1000000 in
theorem bounds_1 (w : World) : Calls Tryz.prog 78 #[.int .i64 1] w (BoundsR 1 w) := by
  go_enter Tryz.func78, Tryz.ntmps78
  go_wp2_with fail
  have e0 : (w.alloc (.cells #[.int .u64 0, .int .u64 0, .map none] 127)).heap[w.heap.size]? = some (.cells #[.int .u64 0, .int .u64 0, .map none] 127) := heap_alloc_new w _
  have hw0 : Below w.heap.size w (w.alloc (.cells #[.int .u64 0, .int .u64 0, .map none] 127)) := (by repeat (first | (with_reducible assumption) | (with_reducible exact Below.refl _ _) | (with_reducible refine below_drewN ?_ _) | (with_reducible refine Below.drew ?_) | (with_reducible refine Below.setCell ?_ (by first | omega | (simp <;> omega)) _) | (with_reducible refine Below.alloc ?_ (by first | omega | (simp <;> omega)) _)))
  refine (minutes_any _).mono ?_
  rintro e w' ⟨M, rfl, hM, hb⟩
  have HM := Lib.hid hM
  have c0 : w'.heap[w.heap.size]? = some (.cells #[.int .u64 0, .int .u64 0, .map none] 127) := (hb.block _ (by simp)).trans e0
  have bk : Below w.heap.size w w' := hw0.trans (hb.mono hw0.size)
  have nk : w.heap.size ≤ w'.heap.size := bk.size
  have hMb : Hid (∀ b, M = some b → b ≠ w.heap.size) := Lib.hid (by
    intro b hb2 hb3
    subst hb3
    have h9 := HM.out
    unfold NamesAt at h9
    split at h9
    · obtain ⟨b2, n2, h1, h2⟩ := h9
      rw [hb2] at h1
      injection h1 with h1
      subst h1
      obtain ⟨es, clock, h3, _⟩ := h2
      rw [c0] at h3
      cases h3
    · rw [hb2] at h9; cases h9)
  clear e0 hw0 hb hM
  have k0 : w'.cell? ⟨w.heap.size, 0, none⟩ = some (.int .u64 0) := cell_of_row _ _ 0 _ _ (0, 0) c0
  have f0 : w'.frozen? ⟨w.heap.size, 0, none⟩ = false := by simp [World.frozen?, c0]
  have k1 : w'.cell? ⟨w.heap.size, 1, none⟩ = some (.int .u64 0) := cell_of_row _ _ 1 _ _ (0, 0) c0
  have f1 : w'.frozen? ⟨w.heap.size, 1, none⟩ = false := by simp [World.frozen?, c0]
  have k2 : w'.cell? ⟨w.heap.size, 2, none⟩ = some (.map none) := cell_of_row _ _ 2 _ _ (0, 0) c0
  have f2 : w'.frozen? ⟨w.heap.size, 2, none⟩ = false := by simp [World.frozen?, c0]
  simp only [loK, hiK]
  go_wp2_with fail
  refine bodyPost_ret (v := .agg #[.int .u64 0, .int .u64 59, .map M]) ?_ rfl ⟨_, rfl, ?_, ?_⟩
  · simp [results, Tryz.results78, go_sem, k0, k1, k2]
  · have h9 := HM.out
    unfold NamesAt at h9 ⊢
    split
    · rename_i hk
      rw [if_pos hk] at h9
      obtain ⟨b2, n2, h1, h2⟩ := h9
      refine ⟨b2, n2, h1, h2.kept (row := some w.heap.size) ?_ (by intro h; injection h with h; exact hMb.out b2 h1 h)⟩
      exact Lib.grownBy_setB (Lib.grownBy_setB (Lib.grownBy_setB (World.grownBy.refl _ _) 0 _) 1 _) 2 _
    · rename_i hk
      rw [if_neg hk] at h9
      exact h9
  · exact (by repeat (first | (with_reducible assumption) | (with_reducible exact Below.refl _ _) | (with_reducible refine below_drewN ?_ _) | (with_reducible refine Below.drew ?_) | (with_reducible refine Below.setCell ?_ (by first | omega | (simp <;> omega)) _) | (with_reducible refine Below.alloc ?_ (by first | omega | (simp <;> omega)) _)))
set_option maxRecDepth 100000 in
set_option maxHeartbeats 1000000 in
theorem bounds_2 (w : World) : Calls Tryz.prog 78 #[.int .i64 2] w (BoundsR 2 w) := by
  go_enter Tryz.func78, Tryz.ntmps78
  go_wp2_with fail
  have e0 : (w.alloc (.cells #[.int .u64 0, .int .u64 0, .map none] 127)).heap[w.heap.size]? = some (.cells #[.int .u64 0, .int .u64 0, .map none] 127) := heap_alloc_new w _
  have hw0 : Below w.heap.size w (w.alloc (.cells #[.int .u64 0, .int .u64 0, .map none] 127)) := (by repeat (first | (with_reducible assumption) | (with_reducible exact Below.refl _ _) | (with_reducible refine below_drewN ?_ _) | (with_reducible refine Below.drew ?_) | (with_reducible refine Below.setCell ?_ (by first | omega | (simp <;> omega)) _) | (with_reducible refine Below.alloc ?_ (by first | omega | (simp <;> omega)) _)))
  refine (hours_any _).mono ?_
  rintro e w' ⟨M, rfl, hM, hb⟩
  have HM := Lib.hid hM
  have c0 : w'.heap[w.heap.size]? = some (.cells #[.int .u64 0, .int .u64 0, .map none] 127) := (hb.block _ (by simp)).trans e0
  have bk : Below w.heap.size w w' := hw0.trans (hb.mono hw0.size)
  have nk : w.heap.size ≤ w'.heap.size := bk.size
  have hMb : Hid (∀ b, M = some b → b ≠ w.heap.size) := Lib.hid (by
    intro b hb2 hb3
    subst hb3
    have h9 := HM.out
    unfold NamesAt at h9
    split at h9
    · obtain ⟨b2, n2, h1, h2⟩ := h9
      rw [hb2] at h1
      injection h1 with h1
      subst h1
      obtain ⟨es, clock, h3, _⟩ := h2
      rw [c0] at h3
      cases h3
    · rw [hb2] at h9; cases h9)
  clear e0 hw0 hb hM
  have k0 : w'.cell? ⟨w.heap.size, 0, none⟩ = some (.int .u64 0) := cell_of_row _ _ 0 _ _ (0, 0) c0
  have f0 : w'.frozen? ⟨w.heap.size, 0, none⟩ = false := by simp [World.frozen?, c0]
  have k1 : w'.cell? ⟨w.heap.size, 1, none⟩ = some (.int .u64 0) := cell_of_row _ _ 1 _ _ (0, 0) c0
  have f1 : w'.frozen? ⟨w.heap.size, 1, none⟩ = false := by simp [World.frozen?, c0]
  have k2 : w'.cell? ⟨w.heap.size, 2, none⟩ = some (.map none) := cell_of_row _ _ 2 _ _ (0, 0) c0
  have f2 : w'.frozen? ⟨w.heap.size, 2, none⟩ = false := by simp [World.frozen?, c0]
  simp only [loK, hiK]
  go_wp2_with fail
  refine bodyPost_ret (v := .agg #[.int .u64 0, .int .u64 23, .map M]) ?_ rfl ⟨_, rfl, ?_, ?_⟩
  · simp [results, Tryz.results78, go_sem, k0, k1, k2]
  · have h9 := HM.out
    unfold NamesAt at h9 ⊢
    split
    · rename_i hk
      rw [if_pos hk] at h9
      obtain ⟨b2, n2, h1, h2⟩ := h9
      refine ⟨b2, n2, h1, h2.kept (row := some w.heap.size) ?_ (by intro h; injection h with h; exact hMb.out b2 h1 h)⟩
      exact Lib.grownBy_setB (Lib.grownBy_setB (Lib.grownBy_setB (World.grownBy.refl _ _) 0 _) 1 _) 2 _
    · rename_i hk
      rw [if_neg hk] at h9
      exact h9
  · exact (by repeat (first | (with_reducible assumption) | (with_reducible exact Below.refl _ _) | (with_reducible refine below_drewN ?_ _) | (with_reducible refine Below.drew ?_) | (with_reducible refine Below.setCell ?_ (by first | omega | (simp <;> omega)) _) | (with_reducible refine Below.alloc ?_ (by first | omega | (simp <;> omega)) _)))
set_option maxRecDepth 100000 in
set_option maxHeartbeats 1000000 in
theorem bounds_3 (w : World) : Calls Tryz.prog 78 #[.int .i64 3] w (BoundsR 3 w) := by
  go_enter Tryz.func78, Tryz.ntmps78
  go_wp2_with fail
  have e0 : (w.alloc (.cells #[.int .u64 0, .int .u64 0, .map none] 127)).heap[w.heap.size]? = some (.cells #[.int .u64 0, .int .u64 0, .map none] 127) := heap_alloc_new w _
  have hw0 : Below w.heap.size w (w.alloc (.cells #[.int .u64 0, .int .u64 0, .map none] 127)) := (by repeat (first | (with_reducible assumption) | (with_reducible exact Below.refl _ _) | (with_reducible refine below_drewN ?_ _) | (with_reducible refine Below.drew ?_) | (with_reducible refine Below.setCell ?_ (by first | omega | (simp <;> omega)) _) | (with_reducible refine Below.alloc ?_ (by first | omega | (simp <;> omega)) _)))
  refine (dom_any _).mono ?_
  rintro e w' ⟨M, rfl, hM, hb⟩
  have HM := Lib.hid hM
  have c0 : w'.heap[w.heap.size]? = some (.cells #[.int .u64 0, .int .u64 0, .map none] 127) := (hb.block _ (by simp)).trans e0
  have bk : Below w.heap.size w w' := hw0.trans (hb.mono hw0.size)
  have nk : w.heap.size ≤ w'.heap.size := bk.size
  have hMb : Hid (∀ b, M = some b → b ≠ w.heap.size) := Lib.hid (by
    intro b hb2 hb3
    subst hb3
    have h9 := HM.out
    unfold NamesAt at h9
    split at h9
    · obtain ⟨b2, n2, h1, h2⟩ := h9
      rw [hb2] at h1
      injection h1 with h1
      subst h1
      obtain ⟨es, clock, h3, _⟩ := h2
      rw [c0] at h3
      cases h3
    · rw [hb2] at h9; cases h9)
  clear e0 hw0 hb hM
  have k0 : w'.cell? ⟨w.heap.size, 0, none⟩ = some (.int .u64 0) := cell_of_row _ _ 0 _ _ (0, 0) c0
  have f0 : w'.frozen? ⟨w.heap.size, 0, none⟩ = false := by simp [World.frozen?, c0]
  have k1 : w'.cell? ⟨w.heap.size, 1, none⟩ = some (.int .u64 0) := cell_of_row _ _ 1 _ _ (0, 0) c0
  have f1 : w'.frozen? ⟨w.heap.size, 1, none⟩ = false := by simp [World.frozen?, c0]
  have k2 : w'.cell? ⟨w.heap.size, 2, none⟩ = some (.map none) := cell_of_row _ _ 2 _ _ (0, 0) c0
  have f2 : w'.frozen? ⟨w.heap.size, 2, none⟩ = false := by simp [World.frozen?, c0]
  simp only [loK, hiK]
  go_wp2_with fail
  refine bodyPost_ret (v := .agg #[.int .u64 1, .int .u64 31, .map M]) ?_ rfl ⟨_, rfl, ?_, ?_⟩
  · simp [results, Tryz.results78, go_sem, k0, k1, k2]
  · have h9 := HM.out
    unfold NamesAt at h9 ⊢
    split
    · rename_i hk
      rw [if_pos hk] at h9
      obtain ⟨b2, n2, h1, h2⟩ := h9
      refine ⟨b2, n2, h1, h2.kept (row := some w.heap.size) ?_ (by intro h; injection h with h; exact hMb.out b2 h1 h)⟩
      exact Lib.grownBy_setB (Lib.grownBy_setB (Lib.grownBy_setB (World.grownBy.refl _ _) 0 _) 1 _) 2 _
    · rename_i hk
      rw [if_neg hk] at h9
      exact h9
  · exact (by repeat (first | (with_reducible assumption) | (with_reducible exact Below.refl _ _) | (with_reducible refine below_drewN ?_ _) | (with_reducible refine Below.drew ?_) | (with_reducible refine Below.setCell ?_ (by first | omega | (simp <;> omega)) _) | (with_reducible refine Below.alloc ?_ (by first | omega | (simp <;> omega)) _)))
set_option maxRecDepth 100000 in
set_option maxHeartbeats 1000000 in
theorem bounds_4 (w : World) : Calls Tryz.prog 78 #[.int .i64 4] w (BoundsR 4 w) := by
  go_enter Tryz.func78, Tryz.ntmps78
  go_wp2_with fail
  have e0 : (w.alloc (.cells #[.int .u64 0, .int .u64 0, .map none] 127)).heap[w.heap.size]? = some (.cells #[.int .u64 0, .int .u64 0, .map none] 127) := heap_alloc_new w _
  have hw0 : Below w.heap.size w (w.alloc (.cells #[.int .u64 0, .int .u64 0, .map none] 127)) := (by repeat (first | (with_reducible assumption) | (with_reducible exact Below.refl _ _) | (with_reducible refine below_drewN ?_ _) | (with_reducible refine Below.drew ?_) | (with_reducible refine Below.setCell ?_ (by first | omega | (simp <;> omega)) _) | (with_reducible refine Below.alloc ?_ (by first | omega | (simp <;> omega)) _)))
  refine (months_any _).mono ?_
  rintro e w' ⟨M, rfl, hM, hb⟩
  have HM := Lib.hid hM
  have c0 : w'.heap[w.heap.size]? = some (.cells #[.int .u64 0, .int .u64 0, .map none] 127) := (hb.block _ (by simp)).trans e0
  have bk : Below w.heap.size w w' := hw0.trans (hb.mono hw0.size)
  have nk : w.heap.size ≤ w'.heap.size := bk.size
  have hMb : Hid (∀ b, M = some b → b ≠ w.heap.size) := Lib.hid (by
    intro b hb2 hb3
    subst hb3
    have h9 := HM.out
    unfold NamesAt at h9
    split at h9
    · obtain ⟨b2, n2, h1, h2⟩ := h9
      rw [hb2] at h1
      injection h1 with h1
      subst h1
      obtain ⟨es, clock, h3, _⟩ := h2
      rw [c0] at h3
      cases h3
    · rw [hb2] at h9; cases h9)
  clear e0 hw0 hb hM
  have k0 : w'.cell? ⟨w.heap.size, 0, none⟩ = some (.int .u64 0) := cell_of_row _ _ 0 _ _ (0, 0) c0
  have f0 : w'.frozen? ⟨w.heap.size, 0, none⟩ = false := by simp [World.frozen?, c0]
  have k1 : w'.cell? ⟨w.heap.size, 1, none⟩ = some (.int .u64 0) := cell_of_row _ _ 1 _ _ (0, 0) c0
  have f1 : w'.frozen? ⟨w.heap.size, 1, none⟩ = false := by simp [World.frozen?, c0]
  have k2 : w'.cell? ⟨w.heap.size, 2, none⟩ = some (.map none) := cell_of_row _ _ 2 _ _ (0, 0) c0
  have f2 : w'.frozen? ⟨w.heap.size, 2, none⟩ = false := by simp [World.frozen?, c0]
  simp only [loK, hiK]
  go_wp2_with fail
  refine bodyPost_ret (v := .agg #[.int .u64 1, .int .u64 12, .map M]) ?_ rfl ⟨_, rfl, ?_, ?_⟩
  · simp [results, Tryz.results78, go_sem, k0, k1, k2]
  · have h9 := HM.out
    unfold NamesAt at h9 ⊢
    split
    · rename_i hk
      rw [if_pos hk] at h9
      obtain ⟨b2, n2, h1, h2⟩ := h9
      refine ⟨b2, n2, h1, h2.kept (row := some w.heap.size) ?_ (by intro h; injection h with h; exact hMb.out b2 h1 h)⟩
      exact Lib.grownBy_setB (Lib.grownBy_setB (Lib.grownBy_setB (World.grownBy.refl _ _) 0 _) 1 _) 2 _
    · rename_i hk
      rw [if_neg hk] at h9
      exact h9
  · exact (by repeat (first | (with_reducible assumption) | (with_reducible exact Below.refl _ _) | (with_reducible refine below_drewN ?_ _) | (with_reducible refine Below.drew ?_) | (with_reducible refine Below.setCell ?_ (by first | omega | (simp <;> omega)) _) | (with_reducible refine Below.alloc ?_ (by first | omega | (simp <;> omega)) _)))
set_option maxRecDepth 100000 in
set_option maxHeartbeats 1000000 in
theorem bounds_5 (w : World) : Calls Tryz.prog 78 #[.int .i64 5] w (BoundsR 5 w) := by
  go_enter Tryz.func78, Tryz.ntmps78
  go_wp2_with fail
  have e0 : (w.alloc (.cells #[.int .u64 0, .int .u64 0, .map none] 127)).heap[w.heap.size]? = some (.cells #[.int .u64 0, .int .u64 0, .map none] 127) := heap_alloc_new w _
  have hw0 : Below w.heap.size w (w.alloc (.cells #[.int .u64 0, .int .u64 0, .map none] 127)) := (by repeat (first | (with_reducible assumption) | (with_reducible exact Below.refl _ _) | (with_reducible refine below_drewN ?_ _) | (with_reducible refine Below.drew ?_) | (with_reducible refine Below.setCell ?_ (by first | omega | (simp <;> omega)) _) | (with_reducible refine Below.alloc ?_ (by first | omega | (simp <;> omega)) _)))
  refine (dow_any _).mono ?_
  rintro e w' ⟨M, rfl, hM, hb⟩
  have HM := Lib.hid hM
  have c0 : w'.heap[w.heap.size]? = some (.cells #[.int .u64 0, .int .u64 0, .map none] 127) := (hb.block _ (by simp)).trans e0
  have bk : Below w.heap.size w w' := hw0.trans (hb.mono hw0.size)
  have nk : w.heap.size ≤ w'.heap.size := bk.size
  have hMb : Hid (∀ b, M = some b → b ≠ w.heap.size) := Lib.hid (by
    intro b hb2 hb3
    subst hb3
    have h9 := HM.out
    unfold NamesAt at h9
    split at h9
    · obtain ⟨b2, n2, h1, h2⟩ := h9
      rw [hb2] at h1
      injection h1 with h1
      subst h1
      obtain ⟨es, clock, h3, _⟩ := h2
      rw [c0] at h3
      cases h3
    · rw [hb2] at h9; cases h9)
  clear e0 hw0 hb hM
  have k0 : w'.cell? ⟨w.heap.size, 0, none⟩ = some (.int .u64 0) := cell_of_row _ _ 0 _ _ (0, 0) c0
  have f0 : w'.frozen? ⟨w.heap.size, 0, none⟩ = false := by simp [World.frozen?, c0]
  have k1 : w'.cell? ⟨w.heap.size, 1, none⟩ = some (.int .u64 0) := cell_of_row _ _ 1 _ _ (0, 0) c0
  have f1 : w'.frozen? ⟨w.heap.size, 1, none⟩ = false := by simp [World.frozen?, c0]
  have k2 : w'.cell? ⟨w.heap.size, 2, none⟩ = some (.map none) := cell_of_row _ _ 2 _ _ (0, 0) c0
  have f2 : w'.frozen? ⟨w.heap.size, 2, none⟩ = false := by simp [World.frozen?, c0]
  simp only [loK, hiK]
  go_wp2_with fail
  refine bodyPost_ret (v := .agg #[.int .u64 0, .int .u64 6, .map M]) ?_ rfl ⟨_, rfl, ?_, ?_⟩
  · simp [results, Tryz.results78, go_sem, k0, k1, k2]
  · have h9 := HM.out
    unfold NamesAt at h9 ⊢
    split
    · rename_i hk
      rw [if_pos hk] at h9
      obtain ⟨b2, n2, h1, h2⟩ := h9
      refine ⟨b2, n2, h1, h2.kept (row := some w.heap.size) ?_ (by intro h; injection h with h; exact hMb.out b2 h1 h)⟩
      exact Lib.grownBy_setB (Lib.grownBy_setB (Lib.grownBy_setB (World.grownBy.refl _ _) 0 _) 1 _) 2 _
    · rename_i hk
      rw [if_neg hk] at h9
      exact h9
  · exact (by repeat (first | (with_reducible assumption) | (with_reducible exact Below.refl _ _) | (with_reducible refine below_drewN ?_ _) | (with_reducible refine Below.drew ?_) | (with_reducible refine Below.setCell ?_ (by first | omega | (simp <;> omega)) _) | (with_reducible refine Below.alloc ?_ (by first | omega | (simp <;> omega)) _)))
theorem bounds_any (k : Nat) (hk : k < 6) (w : World) : Calls Tryz.prog 78 #[.int .i64 k] w (BoundsR k w) := by
  have h : k = 0 ∨ k = 1 ∨ k = 2 ∨ k = 3 ∨ k = 4 ∨ k = 5 := by omega
  rcases h with rfl | rfl | rfl | rfl | rfl | rfl
  · exact bounds_0 w
  · exact bounds_1 w
  · exact bounds_2 w
  · exact bounds_3 w
  · exact bounds_4 w
  · exact bounds_5 w
end Go.Proofs.YtkhggefbkhdimaaGreatDoor
