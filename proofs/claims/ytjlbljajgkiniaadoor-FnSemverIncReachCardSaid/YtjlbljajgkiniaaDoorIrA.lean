/- Bare versions: impl.VersionText, spec.Compare; runs of increments: plain words. -/
import Derived.Test.YtjlbljajgkiniaaDoorSpNum
import Derived.Test.YtjlbljajgkiniaaDoorVerText
import Derived.Test.YtjlbljajgkiniaaDoorSl
import Derived.WalkSmall
import Derived.Maps.AppendAt
namespace Go.Proofs.YtjlbljajgkiniaaDoor
open Go.RowKit
set_option linter.unusedVariables false
set_option linter.unusedSimpArgs false

theorem verText_any (a b c : Int) (p m : ByteArray) (a0 : 0 ≤ a) (a1 : a < 18446744073709551616) (b0 : 0 ≤ b) (b1 : b < 18446744073709551616) (c0' : 0 ≤ c) (c1' : c < 18446744073709551616) (hp : p.size ≤ 2147483647) (hm : m.size ≤ 2147483647) (w : World) (ht : Hid (Tab10 w)) :
    Calls Tryd.prog 10 #[.agg (plainC a b c p m)] w (fun e w' => e = .returned (.string (textB a b c p m)) ∧ Below w.heap.size w w') := by
  have hS := fun W => verString_any a b c p m ⟨#[]⟩ a0 a1 b0 b1 c0' c1' hp hm W
  generalize textB a b c p m = T at *
  go_enter Tryd.func10, Tryd.ntmps10
  go_wp2_with fail
  refine (version_any _ _ _ _ _ _).mono ?_
  rintro e w1 ⟨rfl, rfl⟩
  go_wp2_with fail
  refine (hS _ (tabBelow ht (by repeat (first | (with_reducible assumption) | (with_reducible refine Below.setCell ?_ (by first | omega | (simp <;> omega)) _) | (with_reducible exact Below.refl _ _) | refine below_drewN ?_ _ | refine Below.drew ?_ | refine Below.alloc ?_ (by first | omega | (simp <;> omega)) _)))).mono ?_
  rintro e w2 ⟨rfl, hb⟩
  have bk : Below w.heap.size w w2 := Below.trans (by repeat (first | (with_reducible assumption) | (with_reducible refine Below.setCell ?_ (by first | omega | (simp <;> omega)) _) | (with_reducible exact Below.refl _ _) | refine below_drewN ?_ _ | refine Below.drew ?_ | refine Below.alloc ?_ (by first | omega | (simp <;> omega)) _)) (hb.mono (by first | omega | (simp <;> omega)))
  go_wp2_with fail
  go_ret
  exact ⟨rfl, bk⟩

theorem cpre_bare (w : World) : Calls Tryd.prog 20 #[.string ⟨#[]⟩, .string ⟨#[]⟩] w (PartPost 0 w) := by
  go_enter Tryd.func20, Tryd.ntmps20
  go_wp2_with fail
  go_ret
  exact ⟨rfl, Below.refl _ _⟩

set_option maxHeartbeats 1000000 in
theorem spCmp_bare (a b c x y z : Int) (w : World) :
    Calls Tryd.prog 7 #[.agg (plainC a b c ⟨#[]⟩ ⟨#[]⟩), .agg (plainC x y z ⟨#[]⟩ ⟨#[]⟩)] w (PartPost (numI 3 a b c x y z) w) := by
  go_enter Tryd.func7, Tryd.ntmps7
  go_wp2_with fail
  refine (spNumbers_any _ _ _ _ _ _ _ _ _ _ _ _).mono ?_
  rintro e w1 ⟨rfl, hb⟩
  have hP1 : PlainAt w1 w.heap.size (plainC a b c ⟨#[]⟩ ⟨#[]⟩) := (hb.block _ (by simp; omega)).trans ((plainAt_last w _ _ rfl).alloc _)
  have hP2 : PlainAt w1 (w.heap.size + 1) (plainC x y z ⟨#[]⟩ ⟨#[]⟩) := (hb.block _ (by simp)).trans (plainAt_last _ _ _ (by simp))
  have bw : Below w.heap.size w w1 := (((Below.refl _ _).alloc (Nat.le_refl _) _).alloc (by simp) _).trans (hb.mono (by simp; omega))
  have p3 := hP1.cell 3
  have q3 := hP2.cell 3
  clear hb hP1 hP2
  obtain ⟨R, HR⟩ : ∃ R, Hid (numI 3 a b c x y z = R) := ⟨_, rfl⟩
  rw [HR.out]
  by_cases h : R = 0
  · subst h
    go_wp2_with fail
    refine (cpre_bare _).mono ?_
    rintro e w2 ⟨rfl, hb2⟩
    have b2 := bw.trans (hb2.mono bw.size)
    go_wp2_with fail
    go_ret
    exact ⟨by rw [HR.out]; rfl, b2⟩
  · have h1 : (R != 0) = true := by simpa using h
    have h2 : (R = 0) = False := eq_false h
    go_wp2_with fail
    go_ret
    exact ⟨by rw [HR.out]; rfl, bw⟩

/-- A step of a run: 0 the next patch, 1 the next minor, any other the next major version. -/
abbrev P3 := Int × Int × Int
def stepP (v : P3) (s : Int) : P3 := if s = 0 then (v.1, v.2.1, v.2.2 + 1) else if s = 1 then (v.1, v.2.1 + 1, 0) else (v.1 + 1, 0, 0)
def stepOk (v : P3) (s : Int) : Prop := (if s = 0 then v.2.2 else if s = 1 then v.2.1 else v.1) < 18446744073709551615
def In9 (v : P3) : Prop := (0 ≤ v.1 ∧ v.1 < 18446744073709551616) ∧ (0 ≤ v.2.1 ∧ v.2.1 < 18446744073709551616) ∧ (0 ≤ v.2.2 ∧ v.2.2 < 18446744073709551616)
def runP (v : P3) (l : List Int) : P3 := l.foldl stepP v
def runOk (v : P3) (l : List Int) : Prop := ∀ (k : Nat) (s : Int), l[k]? = some s → stepOk (runP v (l.take k)) s
theorem runP_snoc (v : P3) (l : List Int) (s : Int) : runP v (l ++ [s]) = stepP (runP v l) s := by unfold runP; simp
theorem stepP_in (v : P3) (s : Int) (h : In9 v) (hs : stepOk v s) : In9 (stepP v s) := by
  obtain ⟨a, b, c⟩ := v
  unfold stepOk at hs
  unfold stepP In9 at *
  simp only at *
  split at hs
  · rename_i e; simp [e]; omega
  · rename_i e
    split at hs
    · rename_i e2; simp [e2]; omega
    · rename_i e2; simp [e, e2]; omega
theorem runP_in (v : P3) (l : List Int) (h : In9 v) (ho : runOk v l) : ∀ k, k ≤ l.length → In9 (runP v (l.take k)) := by
  intro k
  induction k with
  | zero => intro _; simpa [runP] using h
  | succ k ih =>
    intro hk
    have hs : l[k]? = some l[k] := List.getElem?_eq_getElem (by omega)
    rw [take_snoc l k _ hs, runP_snoc]
    exact stepP_in _ _ (ih (by omega)) (ho k _ hs)
end Go.Proofs.YtjlbljajgkiniaaDoor
