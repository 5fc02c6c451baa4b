/- Slices whose elements stand in memory: read ones and ones that the call itself makes. From a slice that came in, as a row reads it, to SlOf. From a slice of ints that came in, as a row reads it, to SlOf. -/
import Derived.Test.YtkhggefbkhdimaaGreatDoorWk
import Derived.OwnWalk
import Derived.Deep.OwnRows
import Derived.Laws.OwnMore
import Derived.Deep.Slices
import Derived.OpenShut
namespace Go.Proofs.YtkhggefbkhdimaaGreatDoor
open Go.RowKit
set_option linter.unusedVariables false
set_option linter.unusedSimpArgs false

/-- v is a slice of the elements l; each stands in z cells us that R holds of. -/
def SlOf {α : Type} (R : World → List Value → α → Prop) (z : Nat) (w : World) (v : Value) (l : List α) : Prop :=
  ∃ ao cap, v = .slice ao l.length cap ∧ ∀ (i : Nat) (x : α), l[i]? = some x → ∃ (b off : Nat) (us : List Value), ao = some ⟨b, off, none⟩ ∧ us.length = z ∧ (∀ (j : Nat) (u : Value), us[j]? = some u → w.cell? ⟨b, off + i * z + j, none⟩ = some u) ∧ R w us x

/-- v is a slice of the call's own (its row has the element type e and lies from B on) of the elements l. -/
def OwnOf {α : Type} (R : World → List Value → α → Prop) (z B : Nat) (e : TypeId) (w : World) (v : Value) (l : List α) : Prop :=
  ∃ cs : List (List Value), cs.length = l.length ∧ (∀ us ∈ cs, us.length = z) ∧ w.ownsRow B e z v l.length cs.flatten ∧ ∀ (i : Nat) (x : α) (us : List Value), l[i]? = some x → cs[i]? = some us → R w us x

theorem cellLtS {w : World} {a : Addr} {v : Value} (h : w.cell? a = some v) : a.block < w.heap.size := by
  rcases Nat.lt_or_ge a.block w.heap.size with h1 | h1
  · exact h1
  · have : w.heap[a.block]? = none := Array.getElem?_eq_none h1
    simp [World.cell?, this] at h
theorem cellBS {X Y : World} {a : Addr} {v : Value} (hb : Below X.heap.size X Y) (h : X.cell? a = some v) : Y.cell? a = some v := (hb.cell (cellLtS h)).trans h

/-- What R says stays where old memory stays. -/
def Mono {α : Type} (R : World → List Value → α → Prop) : Prop := ∀ w w' us x, Below w.heap.size w w' → R w us x → R w' us x

theorem SlOf.below {α : Type} {R : World → List Value → α → Prop} (hR : Mono R) {z : Nat} {w w' : World} {v : Value} {l : List α} (h : SlOf R z w v l) (hb : Below w.heap.size w w') : SlOf R z w' v l := by
  obtain ⟨ao, cap, rfl, hx⟩ := h
  refine ⟨ao, cap, rfl, fun i x hi => ?_⟩
  obtain ⟨b, off, us, rfl, hz, hc, hr⟩ := hx i x hi
  exact ⟨b, off, us, rfl, hz, fun j u hj => cellBS hb (hc j u hj), hR _ _ _ _ hb hr⟩

theorem add_head (g n : Nat) : (⟨g, 0, none⟩ : Addr).add n = ⟨g, n, none⟩ := by unfold Addr.add; split <;> simp_all

theorem flat_at (z : Nat) : ∀ (cs : List (List Value)) (i j : Nat) (us : List Value), (∀ us ∈ cs, us.length = z) → cs[i]? = some us → j < z → cs.flatten[i * z + j]? = us[j]?
  | [], i, j, us, _, h, _ => by simp at h
  | c :: cs, 0, j, us, hz, h, hj => by
    simp at h; subst h
    have : c.length = z := hz c (by simp)
    simp only [List.flatten_cons, Nat.zero_mul, Nat.zero_add]
    rw [List.getElem?_append_left (by omega)]
  | c :: cs, i + 1, j, us, hz, h, hj => by
    have hc : c.length = z := hz c (by simp)
    simp only [List.getElem?_cons_succ] at h
    have ih := flat_at z cs i j us (fun u hu => hz u (by simp [hu])) h hj
    simp only [List.flatten_cons]
    rw [List.getElem?_append_right (by rw [Nat.succ_mul]; omega), ← ih]
    congr 1
    rw [Nat.succ_mul]; omega

theorem SlOf.len {α : Type} {R : World → List Value → α → Prop} {z : Nat} {w : World} {v : Value} {l : List α} (h : SlOf R z w v l) : ∃ ao cap, v = .slice ao l.length cap := by
  obtain ⟨ao, cap, e, _⟩ := h; exact ⟨ao, cap, e⟩

theorem OwnOf.sl {α : Type} {R : World → List Value → α → Prop} {z B : Nat} {e : TypeId} {w : World} {v : Value} {l : List α} (h : OwnOf R z B e w v l) : SlOf R z w v l := by
  obtain ⟨cs, hl, hz, hown, hr⟩ := h
  have hown0 := hown
  rcases hown.2 with ⟨rfl, h0⟩ | ⟨g, cap, cur, rfl, hb, hg, hn, hm, hcs, htk⟩
  · refine ⟨none, 0, by rw [h0], fun i x hi => ?_⟩
    have : l = [] := by simpa using h0
    subst this; simp at hi
  · refine ⟨some ⟨g, 0, none⟩, cap, rfl, fun i x hi => ?_⟩
    have hil : i < l.length := (List.getElem?_eq_some_iff.1 hi).1
    obtain ⟨us, hus⟩ : ∃ us, cs[i]? = some us := ⟨cs[i]'(by omega), List.getElem?_eq_getElem (by omega)⟩
    refine ⟨g, 0, us, rfl, hz us (List.mem_of_getElem? hus), fun j u hj => ?_, hr i x us hi hus⟩
    have hjz : j < z := by
      have := (List.getElem?_eq_some_iff.1 hj).1
      rw [hz us (List.mem_of_getElem? hus)] at this; exact this
    rw [Nat.zero_add, hown0.cellAt (i * z + j) (by
      calc i * z + j < i * z + z := by omega
        _ = (i + 1) * z := by rw [Nat.succ_mul]
        _ ≤ l.length * z := Nat.mul_le_mul_right _ (by omega)), flat_at z cs i j us hz hus hjz, hj]

theorem cells_new (W : World) (cs : Array Value) (ty : TypeId) : ∀ (j : Nat) (u : Value), cs.toList[j]? = some u → (W.alloc (.cells cs ty)).cell? ((⟨W.heap.size, 0, none⟩ : Addr).add j) = some u := by
  intro j u h
  rw [add_head]
  have := World.cell?_alloc_mark W cs ty (0, 0) j
  rw [this]
  simpa using h

/-- But for rows of the element type e the world w' has what w has. -/
def Exc (e : TypeId) (w w' : World) : Prop := ∀ (k : Nat) (cs : Array Value) (ty : TypeId) (fr : Nat × Nat), w.heap[k]? = some (Obj.cells cs ty fr) → ty ≠ e → w'.heap[k]? = some (Obj.cells cs ty fr)
theorem Exc.trans {e : TypeId} {a b c : World} (h : Exc e a b) (k : Exc e b c) : Exc e a c := fun i cs ty fr hi hn => k i cs ty fr (h i cs ty fr hi hn) hn
theorem Exc.ofBelow {e : TypeId} {w w' : World} (h : Below w.heap.size w w') : Exc e w w' := fun k cs ty fr hk _ => (h.block k (Array.getElem?_eq_some_iff.1 hk).1).trans hk
theorem Exc.ofGrown {e : TypeId} {w w' : World} {B z n : Nat} {v : Value} {xs : List Value} (h : w.ownsRow B e z v n xs) (hg : w.grownBy w' v.ownBlock) : Exc e w w' := fun k cs ty fr hk hn => by
  refine (hg.block k (Array.getElem?_eq_some_iff.1 hk).1 (fun hh => ?_)).trans hk
  rcases h.2 with ⟨rfl, _⟩ | ⟨g, cap, cur, rfl, _, hgg, _⟩
  · simp [Value.ownBlock] at hh
  · simp [Value.ownBlock] at hh
    subst hh
    rw [hk] at hgg
    simp at hgg
    exact hn hgg.2.1
theorem Exc.ofSet {e : TypeId} {w : World} {g i : Nat} {cs : Array Value} {fr : Nat × Nat} (hg : w.heap[g]? = some (.cells cs e fr)) (u : Value) : Exc e w (w.setCell ⟨g, i, none⟩ u) := fun k cs' ty fr' hk hn => by
  rw [Below.heap_setCell w ⟨g, i, none⟩ u k (fun hh => ?_)]
  · exact hk
  · have hh' : k = g := hh
    subst hh'
    rw [hk] at hg
    simp at hg
    exact hn hg.2.1

/-- What R says stays where rows of other types are written. -/
def Stab {α : Type} (e : TypeId) (R : World → List Value → α → Prop) : Prop := ∀ w w' us x, Exc e w w' → R w us x → R w' us x
theorem Stab.mono {α : Type} {e : TypeId} {R : World → List Value → α → Prop} (h : Stab e R) : Mono R := fun w w' us x hb hr => h w w' us x (Exc.ofBelow hb) hr

theorem OwnOf.exc {α : Type} {R : World → List Value → α → Prop} {z B : Nat} {e e' : TypeId} (hne : e ≠ e') (hR : Stab e' R) {w w' : World} {v : Value} {l : List α} (h : OwnOf R z B e w v l) (hx : Exc e' w w') : OwnOf R z B e w' v l := by
  obtain ⟨cs, hl, hz, hown, hr⟩ := h
  refine ⟨cs, hl, hz, ⟨hown.1, ?_⟩, fun i x us hi hu => hR _ _ _ _ hx (hr i x us hi hu)⟩
  rcases hown.2 with h0 | ⟨g, cap, cur, rfl, hb, hg, hn⟩
  · exact .inl h0
  · exact .inr ⟨g, cap, cur, rfl, hb, hx g cur e (0, 0) hg hne, hn⟩

theorem OwnOf.below {α : Type} {R : World → List Value → α → Prop} {z B : Nat} {e : TypeId} (hR : Mono R) {w w' : World} {v : Value} {l : List α} (h : OwnOf R z B e w v l) (hb : Below w.heap.size w w') : OwnOf R z B e w' v l := by
  obtain ⟨cs, hl, hz, hown, hr⟩ := h
  refine ⟨cs, hl, hz, ⟨hown.1, ?_⟩, fun i x us hi hu => hR _ _ _ _ hb (hr i x us hi hu)⟩
  rcases hown.2 with h0 | ⟨g, cap, cur, rfl, hB, hg, hn⟩
  · exact .inl h0
  · exact .inr ⟨g, cap, cur, rfl, hB, (hb.block g (Array.getElem?_eq_some_iff.1 hg).1).trans hg, hn⟩

theorem OwnOf.nil {α : Type} (R : World → List Value → α → Prop) (z B : Nat) (e : TypeId) (w : World) : OwnOf R z B e w (.slice none 0 0) ([] : List α) :=
  ⟨[], rfl, fun _ h => by simp at h, ⟨by simp, .inl ⟨rfl, rfl⟩⟩, fun _ _ _ h => by simp at h⟩

/-- Behind an append of one element. -/
theorem OwnOf.push {α : Type} {R : World → List Value → α → Prop} {z B n : Nat} {e : TypeId} (hR : Stab e R) {w w' : World} {v v' : Value} {l : List α} {x : α} {us : List Value} {cs : List (List Value)}
    (hn : l.length = n) (hl : cs.length = n) (hz : ∀ us ∈ cs, us.length = z) (hown : w.ownsRow B e z v n cs.flatten) (hr : ∀ (i : Nat) (x : α) (us : List Value), l[i]? = some x → cs[i]? = some us → R w us x)
    (hg : w.grownBy w' v.ownBlock) (hown' : w'.ownsRow B e z v' (n + 1) (cs.flatten ++ us)) (hu : us.length = z) (hx : R w us x) : OwnOf R z B e w' v' (l ++ [x]) := by
  subst hn
  have hE := Exc.ofGrown hown hg
  refine ⟨cs ++ [us], by simp [hl], fun u h => ?_, by simpa using hown', fun i y vs hi hv => ?_⟩
  · rcases List.mem_append.1 h with h | h
    · exact hz u h
    · simp at h; subst h; exact hu
  · by_cases hil : i < l.length
    · rw [List.getElem?_append_left hil] at hi
      rw [List.getElem?_append_left (by omega)] at hv
      exact hR _ _ _ _ hE (hr i y vs hi hv)
    · have hi' := (List.getElem?_eq_some_iff.1 hi).1
      simp at hi'
      obtain rfl : i = l.length := by omega
      simp at hi
      rw [← hl] at hv
      simp at hv
      subst hi; subst hv
      exact hR _ _ _ _ hE hx

theorem OwnOf.base {α : Type} {R : World → List Value → α → Prop} {z B B' : Nat} {e : TypeId} {w : World} {v : Value} {l : List α} (h : OwnOf R z B e w v l) (hB : B' ≤ B) : OwnOf R z B' e w v l := by
  obtain ⟨cs, hl, hz, hown, hr⟩ := h
  refine ⟨cs, hl, hz, ⟨hown.1, ?_⟩, hr⟩
  rcases hown.2 with h0 | ⟨g, cap, cur, rfl, hb, hg, hn⟩
  · exact .inl h0
  · exact .inr ⟨g, cap, cur, rfl, by omega, hg, hn⟩
theorem take_snoc {α : Type} (l : List α) (k : Nat) (x : α) (h : l[k]? = some x) : l.take (k + 1) = l.take k ++ [x] := by
  obtain ⟨hk, rfl⟩ := List.getElem?_eq_some_iff.1 h
  exact List.take_succ_eq_append_getElem hk

theorem OwnOf.lt {α : Type} {R : World → List Value → α → Prop} {z B : Nat} {e : TypeId} {w : World} {v : Value} {l : List α} (h : OwnOf R z B e w v l) : ∀ k, v.ownBlock = some k → B ≤ k := fun k hk => by
  obtain ⟨cs, _, _, hown, _⟩ := h
  exact (hown.lt k hk).1
end Go.Proofs.YtkhggefbkhdimaaGreatDoor

namespace Go.Proofs.YtkhggefbkhdimaaGreatDoor
open Go.RowKit Go.ChangeShapes Go.WideShapes Go.Deep
set_option linter.unusedVariables false

theorem list_of {α : Type} (P : Nat → α → Prop) : ∀ n : Nat, (∀ i, i < n → ∃ a, P i a) → ∃ l : List α, l.length = n ∧ ∀ (i : Nat) (a : α), l[i]? = some a → P i a
  | 0, _ => ⟨[], rfl, fun i a h => by simp at h⟩
  | n + 1, h => by
    obtain ⟨l, hl, hp⟩ := list_of P n (fun i hi => h i (by omega))
    obtain ⟨a, ha⟩ := h n (by omega)
    refine ⟨l ++ [a], by simp [hl], fun i b hb => ?_⟩
    by_cases hi : i < l.length
    · rw [List.getElem?_append_left hi] at hb; exact hp i b hb
    · have := (List.getElem?_eq_some_iff.1 hb).1
      simp at this
      obtain rfl : i = l.length := by omega
      simp at hb
      subst hb
      rw [hl]; exact ha

theorem spot_none {w : World} {a : Addr} {v : Value} (h : w.cell? a = some v) : a.spot = none := by
  cases hs : a.spot with
  | none => rfl
  | some s =>
    unfold World.cell? at h
    split at h
    · simp [hs] at h
    · simp at h

theorem add_add0 (b off n : Nat) : (⟨b, off, none⟩ : Addr).add n = ⟨b, off + n, none⟩ := by unfold Addr.add; split <;> simp_all

theorem sl_of_trod {α : Type} {H : Type} {enc : TypeId × Value → H} {P : Program} {W : World} {spare : Nat → Bool} {held : Bool} {t e : TypeId} {fuel : Nat} {v : Value} {x : DataW H × List MemPlace}
    (R : World → List Value → α → Prop) (Q : α → Prop) (z : Nat) (hz : P.cellsOf e = z) (hz0 : 0 < z) (ht : P.underlying t = some (.slice e))
    (helem : ∀ (n : Nat) (cs : List Value) (y : DataW H × List MemPlace), cs.length = z → DataW.trod enc P W 0 spare held n e cs = some y → ∃ a : α, R W cs a ∧ Q a)
    (h : DataW.trod enc P W 0 spare held fuel t [v] = some x) : ∃ l : List α, SlOf R z W v l ∧ ∀ a ∈ l, Q a := by
  rcases open_slice ht h with ⟨e0, _⟩ | ⟨a, len, cap, m, n, D, Pl, e0, _, hl, hcm, hm, _, hx⟩
  · simp at e0; subst e0
    exact ⟨[], ⟨none, 0, rfl, fun i x h => by simp at h⟩, fun a h => by simp at h⟩
  · simp at e0; subst e0
    rw [hz] at hx
    have hlm : len ≤ m := by rw [hm]; split <;> omega
    have each : ∀ i, i < len → ∃ b : α, (∃ cs, cs.length = z ∧ (∀ (j : Nat) (u : Value), cs[j]? = some u → W.cell? ((a.add (i * z)).add j) = some u) ∧ R W cs b) ∧ Q b := fun i hi => by
      obtain ⟨cs, h1, h2⟩ := hx i (by omega)
      obtain ⟨_, h3, h4⟩ := World.cells?_some h1
      obtain ⟨b, hb, hq⟩ := helem _ cs _ h3 h2
      exact ⟨b, ⟨cs, h3, fun j u hj => by rw [h4 j (by have := (List.getElem?_eq_some_iff.1 hj).1; omega)]; exact hj, hb⟩, hq⟩
    obtain ⟨l, hll, hp⟩ := list_of _ len each
    refine ⟨l, ⟨some a, cap, by rw [hll], fun i y hi => ?_⟩, fun b hb => ?_⟩
    · have hi0 : i < len := by have := (List.getElem?_eq_some_iff.1 hi).1; omega
      obtain ⟨⟨cs, h1, h2, h3⟩, _⟩ := hp i y hi
      have hs : a.spot = none := by
        obtain ⟨y0, hy0⟩ : ∃ y0, l[0]? = some y0 := ⟨l[0]'(by omega), List.getElem?_eq_getElem (by omega)⟩
        obtain ⟨⟨c0, g1, g2, g3⟩, _⟩ := hp 0 y0 hy0
        obtain ⟨u, hu⟩ : ∃ u, c0[0]? = some u := ⟨c0[0]'(by omega), List.getElem?_eq_getElem (by omega)⟩
        have := g2 0 u hu
        rw [Nat.zero_mul] at this
        exact spot_none this
      obtain ⟨b, off, sp⟩ := a
      simp at hs
      subst hs
      exact ⟨b, off, cs, rfl, h1, fun j u hj => by have := h2 j u hj; rw [add_add0, add_add0] at this; exact this, h3⟩
    · obtain ⟨i, hi⟩ := List.getElem?_of_mem hb
      exact (hp i b hi).2
end Go.Proofs.YtkhggefbkhdimaaGreatDoor

namespace Go.Proofs.YtkhggefbkhdimaaGreatDoor
open Go.RowKit Go.ChangeShapes Go.WideShapes Go.Deep
set_option linter.unusedVariables false

/-- One cell that holds an int. -/
def RInt (_ : World) (us : List Value) (x : Int) : Prop := us = [.int .i64 x]
theorem RInt.mono : Mono RInt := fun _ _ _ _ _ h => h
theorem cells_intI : Tryz.prog.cellsOf 3 = 1 := by kernel_rfl
theorem trod_ints {H : Type} {enc : TypeId × Value → H} {W : World} {spare : Nat → Bool} {held : Bool} {n : Nat} {v : Value} {x : DataW H × List MemPlace}
    (h : DataW.trod enc Tryz.prog W 0 spare held n 53 [v] = some x) : ∃ l : List Int, SlOf RInt 1 W v l ∧ ∀ t ∈ l, (Lit.int .i64 t).wf = true :=
  sl_of_trod RInt (fun t => (Lit.int .i64 t).wf = true) 1 cells_intI (by decide) Tryz.underlying53 (fun n cs y hl hy => by
    match cs, hl with
    | [u], _ =>
      obtain ⟨x0, e0, _, w0⟩ := DataW.trod_int Tryz.underlying3 hy
      obtain rfl := (List.cons.inj e0).1
      exact ⟨x0, rfl, w0⟩) h
set_option maxRecDepth 100000 in
theorem open_ints9 {H : Type} {enc : TypeId × Value → H} {W : World} {b0 : Nat} {spare : Nat → Bool} {held : Bool} {r : Reach} {v : Value} {d : DataW H} {p : List MemPlace} (hv : Value.okWide Tryz.prog W r b0 53 v) (h : DataW.Trod enc Tryz.prog W 0 spare held 53 v d p) :
    ∃ l : List Int, SlOf RInt 1 W v l ∧ ∀ t ∈ l, (Lit.int .i64 t).wf = true := by
  obtain ⟨a, len, cap, rfl⟩ := okWide_slice Tryz.underlying53 hv
  obtain ⟨fuel, hf⟩ := h
  exact trod_ints (by simpa [Value.cells] using hf)
end Go.Proofs.YtkhggefbkhdimaaGreatDoor
