/- Small functions over lists of texts: zzFits2, setAscends, setEven, strings.HasPrefix, checkShortMatch. -/
import Derived.Test.YtljopdkonahfhaaTrodSl
import Derived.Test.YtljopdkonahfhaaScR
namespace Go.Proofs.Ytljopdkonahfhaa
open Go.RowKit Go.ChangeShapes Go.WideShapes Go.Deep
set_option linter.unusedVariables false
set_option linter.unusedSimpArgs false

/-- One cell that holds a text. -/
def RStr (_ : World) (us : List Value) (x : ByteArray) : Prop := us = [.string x]
theorem RStr.mono : Mono RStr := fun _ _ _ _ _ h => h
theorem RStr.stab {e : TypeId} : Stab e RStr := fun _ _ _ _ _ h => h
theorem cells_str1 : Try.prog.cellsOf 9 = 1 := by kernel_rfl
theorem trod_strs {H : Type} {enc : TypeId × Value → H} {W : World} {spare : Nat → Bool} {held : Bool} {n : Nat} {v : Value} {x : DataW H × List MemPlace}
    (h : DataW.trod enc Try.prog W 0 spare held n 25 [v] = some x) : ∃ l : List ByteArray, SlOf RStr 1 W v l ∧ ∀ t ∈ l, t.size ≤ maxLen :=
  sl_of_trod RStr (fun t => t.size ≤ maxLen) 1 cells_str1 (by decide) Try.underlying25 (fun n cs y hl hy => by
    match cs, hl with
    | [u], _ =>
      obtain ⟨x0, e0, _, w0⟩ := DataW.trod_string Try.underlying9 hy
      obtain rfl := (List.cons.inj e0).1
      exact ⟨x0, rfl, w0⟩) h
set_option maxRecDepth 100000 in
theorem open_strl {H : Type} {enc : TypeId × Value → H} {W : World} {b0 : Nat} {spare : Nat → Bool} {held : Bool} {r : Reach} {v : Value} {d : DataW H} {p : List MemPlace} (hv : Value.okWide Try.prog W r b0 25 v) (h : DataW.Trod enc Try.prog W 0 spare held 25 v d p) :
    ∃ l : List ByteArray, SlOf RStr 1 W v l ∧ ∀ t ∈ l, t.size ≤ maxLen := by
  obtain ⟨a, len, cap, rfl⟩ := okWide_slice Try.underlying25 hv
  obtain ⟨fuel, hf⟩ := h
  exact trod_strs (by simpa [Value.cells] using hf)

/-- The cells of a slice of texts: where element k lies. -/
theorem strAt {w : World} {ao : Option Addr} {l : List ByteArray} (HC : ∀ (i : Nat) (x : ByteArray), l[i]? = some x → ∃ (b off : Nat) (us : List Value), ao = some ⟨b, off, none⟩ ∧ us.length = 1 ∧ (∀ (j : Nat) (u : Value), us[j]? = some u → w.cell? ⟨b, off + i * 1 + j, none⟩ = some u) ∧ RStr w us x) (k : Nat) (x : ByteArray) (h : l[k]? = some x) :
    ∃ b off, ao = some ⟨b, off, none⟩ ∧ w.cell? ⟨b, off + k, none⟩ = some (.string x) := by
  obtain ⟨b, off, us, e, hz, hc, hu⟩ := HC k x h
  unfold RStr at hu
  subst hu
  have := hc 0 _ rfl
  simp only [Nat.mul_one, Nat.add_zero] at this
  exact ⟨b, off, e, this⟩

set_option maxRecDepth 100000 in
set_option maxHeartbeats 4000000 in
theorem fits2_any (l : List ByteArray) (v : Value) (w : World) (hs : Hid (SlOf RStr 1 w v l)) :
    Calls Try.prog 6 #[v] w fun e w' => (∃ r, e = .returned (.bool r) ∧ (r = true → l.length ≤ 2147483647)) ∧ w' = w := by
  obtain ⟨ao, cap, rfl, hc⟩ := hs.out
  have HC := Lib.hid (fun k x h => strAt hc k x h)
  clear hc hs
  by_cases h1 : (2147483647 : Int) < (l.length : Int)
  · go_enter Try.func6, Try.ntmps6
    go_wp2_with fail
    go_ret
    exact ⟨⟨_, rfl, fun h => by cases h⟩, rfl⟩
  · go_enter Try.func6, Try.ntmps6
    go_wp2_with fail
    go_loopw [10] (fun v wr => ∃ k : Nat, k ≤ l.length ∧ v = .int .i64 k ∧ wr = w) (fun v _ => l.length - (intOf v).toNat)
    case atStart => exact ⟨0, Nat.zero_le _, rfl, rfl⟩
    case round =>
      obtain ⟨k, hk, rfl, rfl⟩ := hrel
      by_cases hkL : k < l.length
      · obtain ⟨x, hlx⟩ : ∃ x, l[k]? = some x := ⟨l[k], List.getElem?_eq_getElem hkL⟩
        obtain ⟨ab, aoff, rfl, k0⟩ := HC.out k x hlx
        clear hlx
        by_cases hx : (2147483647 : Int) < (x.size : Int)
        · go_wp2_with fail
          go_ret
          exact ⟨⟨_, rfl, fun h => by cases h⟩, rfl⟩
        · go_wp2_with fail
          go_roundw
          case rel => exact ⟨k + 1, by omega, by go_num, by trivial⟩
          case measure => simp [intOf]; omega
      · obtain rfl : k = l.length := by omega
        go_wp2_with fail
        go_ret
        exact ⟨⟨_, rfl, fun _ => by omega⟩, rfl⟩

set_option maxRecDepth 100000 in
set_option maxHeartbeats 4000000 in
theorem even_any (l : List ByteArray) (v : Value) (hl : l.length ≤ 2147483647) (w : World) (hs : Hid (SlOf RStr 1 w v l)) :
    Calls Try.prog 8 #[v] w fun e w' => (∃ r, e = .returned (.bool r) ∧ (r = true → ∃ n : Nat, ∀ x ∈ l, x.size = n)) ∧ w' = w := by
  obtain ⟨ao, cap, rfl, hc⟩ := hs.out
  have HC := Lib.hid (fun k x h => strAt hc k x h)
  clear hc hs
  go_enter Try.func8, Try.ntmps8
  go_wp2_with fail
  go_loopw [7] (fun v wr => ∃ k : Nat, k ≤ l.length ∧ v = .int .i64 k ∧ wr = w ∧ Hid (∀ i x y, i < k → l[i]? = some x → l[0]? = some y → x.size = y.size)) (fun v _ => l.length - (intOf v).toNat)
  case atStart => exact ⟨0, Nat.zero_le _, rfl, rfl, Lib.hid (fun i x y h => by omega)⟩
  case round =>
    obtain ⟨k, hk, rfl, rfl, hall⟩ := hrel
    by_cases hkL : k < l.length
    · obtain ⟨x, hlx⟩ : ∃ x, l[k]? = some x := ⟨l[k], List.getElem?_eq_getElem hkL⟩
      obtain ⟨y, hly⟩ : ∃ y, l[0]? = some y := ⟨l[0]'(by omega), List.getElem?_eq_getElem (by omega)⟩
      obtain ⟨ab, aoff, rfl, k0⟩ := HC.out k x hlx
      obtain ⟨ab2, aoff2, e2, k1⟩ := HC.out 0 y hly
      obtain ⟨rfl, rfl⟩ : ab2 = ab ∧ aoff2 = aoff := by simp at e2; exact ⟨e2.1.symm, e2.2.symm⟩
      simp only [Nat.add_zero] at k1
      have Hlx := Lib.hid hlx
      have Hly := Lib.hid hly
      clear hlx hly e2
      by_cases hx : x.size = y.size
      · have hxy : ((x.size : Int) != (y.size : Int)) = false := by simp [hx]
        have Hx := Lib.hid hx
        clear hx
        go_wp2_with fail
        go_roundw
        case rel =>
          refine ⟨k + 1, by omega, by go_num, by trivial, Lib.hid (fun i a b hi ha hb => ?_)⟩
          by_cases e : i = k
          · subst e
            rw [Hlx.out] at ha
            rw [Hly.out] at hb
            rw [← Option.some.inj ha, ← Option.some.inj hb]; exact Hx.out
          · exact hall.out i a b (by omega) ha hb
        case measure => simp [intOf]; omega
      · have hxy : ((x.size : Int) != (y.size : Int)) = true := by simp; omega
        clear hx
        go_wp2_with fail
        go_ret
        exact ⟨⟨_, rfl, fun h => by cases h⟩, rfl⟩
    · obtain rfl : k = l.length := by omega
      go_wp2_with fail
      go_ret
      refine ⟨⟨_, rfl, fun _ => ?_⟩, rfl⟩
      cases l with
      | nil => exact ⟨0, fun x h => by simp at h⟩
      | cons y t =>
        refine ⟨y.size, fun x hx => ?_⟩
        obtain ⟨i, hi⟩ := List.getElem?_of_mem hx
        exact hall.out i x y (List.getElem?_eq_some_iff.1 hi).1 hi rfl

def AscPost (l : List ByteArray) (w : World) (e : Ending) (w' : World) : Prop := (∃ r, e = .returned (.bool r) ∧ (r = true → l.length ≤ 40 ∧ ∀ x ∈ l, x.size ≤ 200)) ∧ w' = w
set_option maxRecDepth 100000 in
set_option maxHeartbeats 4000000 in
theorem ascends_any (l : List ByteArray) (v : Value) (hl : l.length ≤ 2147483647) (w : World) (hs : Hid (SlOf RStr 1 w v l)) :
    Calls Try.prog 7 #[v] w (AscPost l w) := by
  obtain ⟨ao, cap, rfl, hc⟩ := hs.out
  have HC := Lib.hid (fun k x h => strAt hc k x h)
  clear hc hs
  go_enter Try.func7, Try.ntmps7
  go_wp2_with fail
  go_loopw [7] (fun v wr => ∃ k : Nat, k ≤ l.length ∧ v = .int .i64 k ∧ wr = w ∧ Hid (∀ i x, i < k → l[i]? = some x → x.size ≤ 200)) (fun v _ => l.length - (intOf v).toNat)
  case atStart => exact ⟨0, Nat.zero_le _, rfl, rfl, Lib.hid (fun i x h => by omega)⟩
  case round =>
    obtain ⟨k, hk, rfl, rfl, hall⟩ := hrel
    by_cases hkL : k < l.length
    · obtain ⟨x, hlx⟩ : ∃ x, l[k]? = some x := ⟨l[k], List.getElem?_eq_getElem hkL⟩
      obtain ⟨ab, aoff, rfl, k0⟩ := HC.out k x hlx
      have Hlx := Lib.hid hlx
      clear hlx
      obtain ⟨b0, hb0⟩ : ∃ b, x.toList.isEmpty = b := ⟨_, rfl⟩
      cases b0 with
      | true =>
        go_wp2_with fail
        go_ret
        exact ⟨⟨_, rfl, fun h => by cases h⟩, rfl⟩
      | false =>
        by_cases hx : (200 : Int) < (x.size : Int)
        · go_wp2_with fail
          go_ret
          exact ⟨⟨_, rfl, fun h => by cases h⟩, rfl⟩
        · have Hnext : Hid (∀ i y, i < k + 1 → l[i]? = some y → y.size ≤ 200) := Lib.hid (fun i y hi hy => by
            by_cases e : i = k
            · subst e; rw [Hlx.out] at hy; rw [← Option.some.inj hy]; omega
            · exact hall.out i y (by omega) hy)
          cases k with
          | zero =>
            simp only [Nat.add_zero] at k0
            go_wp2_with fail
            go_roundw
            case rel => exact ⟨1, by omega, by go_num, by trivial, Hnext⟩
            case measure => simp [intOf]; omega
          | succ k =>
            obtain ⟨y, hly⟩ : ∃ y, l[k]? = some y := ⟨l[k]'(by omega), List.getElem?_eq_getElem (by omega)⟩
            obtain ⟨ab2, aoff2, e2, k1⟩ := HC.out k y hly
            obtain ⟨rfl, rfl⟩ : ab2 = ab ∧ aoff2 = aoff := by simp at e2; exact ⟨e2.1.symm, e2.2.symm⟩
            clear hly e2
            have hpos : (0 : Int) < ((k + 1 : Nat) : Int) := by omega
            obtain ⟨b1, hb1⟩ : ∃ b, Op.bytesLess y.toList x.toList = b := ⟨_, rfl⟩
            cases b1 with
            | true =>
              go_wp2_with fail
              go_roundw
              case rel => exact ⟨k + 1 + 1, by omega, by go_num, by trivial, Hnext⟩
              case measure => simp [intOf]; omega
            | false =>
              go_wp2_with fail
              go_ret
              exact ⟨⟨_, rfl, fun h => by cases h⟩, rfl⟩
    · obtain rfl : k = l.length := by omega
      have hfin : ∀ x ∈ l, x.size ≤ 200 := fun x hx => by
        obtain ⟨i, hi⟩ := List.getElem?_of_mem hx
        exact hall.out i x (List.getElem?_eq_some_iff.1 hi).1 hi
      have HF := Lib.hid hfin
      clear hfin
      by_cases h4 : (l.length : Int) ≤ 40
      · go_wp2_with fail
        go_ret
        exact ⟨⟨_, rfl, fun _ => ⟨by omega, HF.out⟩⟩, rfl⟩
      · go_wp2_with fail
        go_ret
        exact ⟨⟨_, rfl, fun h => by cases h⟩, rfl⟩
end Go.Proofs.Ytljopdkonahfhaa
