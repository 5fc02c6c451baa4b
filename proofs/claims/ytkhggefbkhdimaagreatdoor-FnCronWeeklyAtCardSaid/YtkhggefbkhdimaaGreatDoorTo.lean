/- Regions that draw their order and end in one store: a condition on the world that is owed up to that store alone. -/
import Derived.Deep.RegionHeld3
import Derived.StillTail
namespace Go.Proofs.YtkhggefbkhdimaaGreatDoor
open Go
set_option linter.unusedVariables false

section
variable {P : Program} {ops : Array Oper} {Q : Exit → Act → World → Prop} {md : Region.Mode} {S : World → Prop} {t : Nat}

/-- Any order from here on; behind each operation but number t the world meets S. -/
def wpTo (P : Program) (md : Region.Mode) (ops : Array Oper) (Q : Exit → Act → World → Prop) (S : World → Prop) (t : Nat) : Nat → Array Bool → Act → World → Prop
  | 0, done, a, w => Region.ready md ops done = [] ∧ Q .normal a w
  | k + 1, done, a, w => (Region.ready md ops done = [] → Q .normal a w) ∧
    ∀ j ∈ Region.ready md ops done, wpOp P ops Q j (fun a' w' => (j = t ∨ S w') ∧ wpTo P md ops Q S t k (done.setIfInBounds j true) a' w') a w

theorem wpTo.any : ∀ (k : Nat) (done : Array Bool) (a : Act) (w : World), wpTo P md ops Q S t k done a w → wpAny P md ops Q k done a w
  | 0, _, _, _, h => h
  | k + 1, _, _, _, ⟨h0, h1⟩ => ⟨h0, fun j hj => wpOp_mono (fun _ _ hh => wpTo.any k _ _ _ hh.2) (h1 j hj)⟩

/-- Operation i, which t waits for, may be done at once if it yields v wherever S holds. -/
theorem wpTo.early {i : Nat} {o : Oper} {v : Value} (hi : ops[i]? = some o) (hs : Region.noSelect ops = true) (ht : Region.waitsFor md ops t i = true)
    (hQ : ∀ c a w, Q (.panic c) (a.put o.dst v) w → Q (.panic c) a w) :
    ∀ (k : Nat) (done : Array Bool) (a : Act) (w : World),
      (∀ j p, ops[j]? = some p → j ≠ i → done.getD j true = false → (∀ e ∈ p.after, Region.binds md e = true → e.on ≠ i) → o.apart ops p = true) →
      i ∈ Region.ready md ops done → YieldsIf P ops S o v a → S w → wpTo P md ops Q S t k (done.setIfInBounds i true) (a.put o.dst v) w → wpTo P md ops Q S t (k + 1) done a w
  | k, done, a, w, hfree, hr, hy, hS, H => by
    have open_i : done.getD i false = false := by
      have h0 := (mem_ready.1 hr).1
      rcases Nat.lt_or_ge i done.size with h' | h'
      · simp [h'] at h0 ⊢; exact h0
      · simp [Array.getElem?_eq_none h'] at h0
    refine ⟨fun h => (by rw [h] at hr; cases hr), fun j hj => ?_⟩
    by_cases hji : j = i
    · subst hji; exact hy.wpOp hi hS ⟨.inr hS, H⟩
    obtain ⟨un, p, hp, wait⟩ := mem_ready.1 hj
    have nowait : ∀ e ∈ p.after, Region.binds md e = true → e.on ≠ i := fun e he hb heq => by
      have := wait e he hb
      rw [heq, open_i] at this; cases this
    have hjt : j ≠ t := fun h => by
      subst h
      obtain ⟨p', hp', e, he, hb, heq⟩ := Region.waitsFor_spec ht
      obtain rfl : p = p' := Option.some.inj (hp.symm.trans hp')
      exact nowait e he hb heq
    cases k with
    | zero =>
      have := ready_mono hj hji
      rw [H.1] at this
      cases this
    | succ k =>
      have step := wpOp_putIf hp (hfree j p hp hji un nowait) (fun cs b => Region.noSelect_spec hs i o cs b hi) (fun cs b => Region.noSelect_spec hs j p cs b hp) hQ hy (H.2 j (ready_mono hj hji))
      refine wpOp_mono (fun a' w' hh => ?_) step
      have hS' : S w' := hh.2.1.resolve_left hjt
      refine ⟨.inr hS', wpTo.early hi hs ht hQ k (done.setIfInBounds j true) a' w' ?_ (ready_mono hr (Ne.symm hji)) hh.1 hS' ?_⟩
      · intro q c hc hqi hun hno
        refine hfree q c hc hqi ?_ hno
        by_cases hjq : j = q
        · subst hjq; exact un
        · rw [getD_set_ne true hjq] at hun; exact hun
      · rw [Array.setIfInBounds_comm _ _ hji]; exact hh.2.2

theorem wpTo_take {i k : Nat} {o : Oper} {v : Value} {done : Array Bool} {a : Act} {w : World} (hi : ops[i]? = some o) (hs : Region.noSelect ops = true) (hf : Region.free md ops done i = true) (hr : (Region.ready md ops done).contains i = true)
    (ht : Region.waitsFor md ops t i = true) (hQ : ∀ c a w, Q (.panic c) (a.put o.dst v) w → Q (.panic c) a w) (hy : YieldsIf P ops S o v a) (hS : S w) (h : wpTo P md ops Q S t k (done.setIfInBounds i true) (a.put o.dst v) w) : wpTo P md ops Q S t (k + 1) done a w :=
  wpTo.early hi hs ht hQ k done a w (Region.free_spec hi hf) (by simpa using hr) hy hS h
theorem wpTo_one {i k : Nat} {o : Oper} {done : Array Bool} {a : Act} {w : World} (hr : Region.ready md ops done = [i]) (ho : ops[i]? = some o)
    (h : ∀ K : Act → World → Prop, Shut (∀ a w, (i = t ∨ S w) → (i = t ∨ S w → wpTo P md ops Q S t k (done.setIfInBounds i true) a w) → K a w) → if Region.wanted o (yielded ops a.tmps) = true then Oper.wp P o a w K Q else K (a.put o.dst undef) w) : wpTo P md ops Q S t (k + 1) done a w :=
  ⟨fun h0 => (by rw [h0] at hr; cases hr), fun j hj => by
    rw [hr, List.mem_singleton] at hj
    subst hj
    exact wpOp_step ho (fun K hK => h K (fun a w hS hW => hK a w ⟨hS, hW hS⟩))⟩
theorem wpTo_done {done : Array Bool} {a : Act} {w : World} (hr : Region.ready md ops done = []) (h : Q .normal a w) : ∀ k, wpTo P md ops Q S t k done a w
  | 0 => ⟨hr, h⟩
  | _ + 1 => ⟨fun _ => h, by rw [hr]; simp⟩
theorem wp_region_to {id : Nat} {a : Act} {w : World} (t : Nat) (hm : P.follows .mixedOrders = true) (hS : S w.drew) (h : S w.drew → wpTo P .any ops Q S t ops.size (Array.replicate ops.size false) a w.drew) : (Code.region id ops true).wp P Q a w :=
  wp_region_any hm (wpTo.any _ _ _ _ (h hS))
end
end Go.Proofs.YtkhggefbkhdimaaGreatDoor
