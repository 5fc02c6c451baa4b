/- laws.FnSetCodesLong. -/
import Derived.Test.YtljopdkonahfhaaScD
namespace Go.Proofs.Ytljopdkonahfhaa
open Go.RowKit
set_option linter.unusedVariables false
set_option linter.unusedSimpArgs false

theorem strAt2 {w : World} {l : List ByteArray} {ab aoff : Nat} (H : ∀ (k : Nat) (x : ByteArray), l[k]? = some x → ∃ b off, (some ⟨ab, aoff, none⟩ : Option Addr) = some ⟨b, off, none⟩ ∧ w.cell? ⟨b, off + k, none⟩ = some (.string x)) (k : Nat) (x : ByteArray) (h : l[k]? = some x) : w.cell? ⟨ab, aoff + k, none⟩ = some (.string x) := by
  obtain ⟨b, off, e, hc⟩ := H k x h
  simp at e
  obtain ⟨rfl, rfl⟩ := e
  exact hc
set_option maxRecDepth 100000 in
set_option maxHeartbeats 8000000 in
theorem law_codesLong (a0 : ByteArray) (l1 : List ByteArray) (a1 : Value) (a2 : Int) (w0 : a0.size ≤ maxLen) (w2' : (Lit.int .i64 a2).wf = true) (w : World) (s1 : SlOf RStr 1 w a1 l1) (n1 : ∀ s ∈ l1, s.size ≤ maxLen) :
    Calls Try.prog 4 #[.string a0, a1, .int .i64 a2] w fun e w' => e = .returned (.bool true) ∧ Below w.heap.size w w' := by
  have HS := Lib.hid s1
  clear n1 w2' w0 s1
  by_cases h1 : (2147483647 : Int) < (a0.size : Int)
  · go_enter Try.func4, Try.ntmps4
    go_wp2_with fail
    go_ret
    exact ⟨rfl, Below.refl _ _⟩
  go_enter Try.func4, Try.ntmps4
  go_wp2_with fail
  refine (fits2_any l1 a1 _ HS).mono ?_
  rintro e w' ⟨⟨r, rfl, hr⟩, rfl⟩
  cases r with
  | false =>
    go_wp2_with fail
    go_ret
    exact ⟨rfl, Below.refl _ _⟩
  | true =>
  have hl0 := hr rfl
  clear hr
  by_cases h2 : (50 : Int) < (a0.size : Int)
  · go_wp2_with fail
    go_ret
    exact ⟨rfl, Below.refl _ _⟩
  have ha : a0.size ≤ 50 := by omega
  go_wp2_with fail
  refine (ascends_any l1 a1 hl0 _ HS).mono ?_
  rintro e w' ⟨⟨r, rfl, hr⟩, rfl⟩
  cases r with
  | false =>
    go_wp2_with fail
    go_ret
    exact ⟨rfl, Below.refl _ _⟩
  | true =>
  obtain ⟨hll, hsz0⟩ := hr rfl
  have HSZ := Lib.hid hsz0
  clear hr hsz0
  go_wp2_with fail
  refine (even_any l1 a1 hl0 _ HS).mono ?_
  rintro e w' ⟨⟨r, rfl, hr⟩, rfl⟩
  cases r with
  | false =>
    go_wp2_with fail
    go_ret
    exact ⟨rfl, Below.refl _ _⟩
  | true =>
  obtain ⟨L, hL0⟩ := hr rfl
  have HL := Lib.hid hL0
  clear hr hL0
  by_cases h3 : a2 < 0
  · go_wp2_with fail
    go_ret
    exact ⟨rfl, Below.refl _ _⟩
  by_cases h4 : (300 : Int) < a2
  · go_wp2_with fail
    go_ret
    exact ⟨rfl, Below.refl _ _⟩
  obtain ⟨lenN, rfl⟩ : ∃ n : Nat, a2 = n := ⟨a2.toNat, by omega⟩
  have hlen : lenN ≤ 300 := by omega
  obtain ⟨ao, cap, rfl, hc⟩ := HS.out
  by_cases h5 : l1.length = 0
  · have h6 : ((l1.length : Int) == 0) = true := by simp [h5]
    go_wp2_with fail
    go_ret
    exact ⟨rfl, Below.refl _ _⟩
  have h6 : ((l1.length : Int) == 0) = false := by simp only [beq_eq_false_iff_ne]; omega
  obtain ⟨x0, hx0⟩ : ∃ x, l1[0]? = some x := ⟨l1[0]'(by omega), List.getElem?_eq_getElem (by omega)⟩
  have HC0 := Lib.hid (fun k x h => strAt hc k x h)
  obtain ⟨ab, aoff, rfl, c0⟩ := HC0.out 0 x0 hx0
  have HC := Lib.hid (fun k x h => strAt2 HC0.out k x h)
  have hLx := HL.out x0 (List.mem_of_getElem? hx0)
  have hL200 : L ≤ 200 := by have := HSZ.out x0 (List.mem_of_getElem? hx0); omega
  have hlp : (0 : Int) < (l1.length : Int) := by omega
  obtain ⟨good, hgoodD⟩ : ∃ good : Prop, good = (¬ L ≤ lenN → ∀ i x y, l1[i]? = some x → l1[i + 1]? = some y → preB y lenN (x.extract 0 lenN) = false) := ⟨_, rfl⟩
  obtain ⟨want, hwant⟩ : ∃ want : ByteArray → ByteArray, Hid (want = fun x => if L ≤ lenN then dgOf a0 x else x.extract 0 lenN) := ⟨_, rfl⟩
  have HLb : Hid (∀ x ∈ l1, x.size = L) := HL
  clear hc HC0 HSZ
  simp only [Nat.add_zero] at c0
  go_wp2_with fail
  refine (setCodes_any a0 l1 _ L lenN HLb hL200 hlen hll ha good want (Lib.hid (fun h x => by rw [hwant.out]; simp [h])) (Lib.hid (fun h x => by rw [hwant.out]; simp [h])) (Lib.hid (fun g => by rw [hgoodD] at g; exact g)) _ HS).mono ?_
  rintro e w2 ⟨u, codes, rfl, hsc, hcl, hcg0, hbw⟩
  obtain ⟨aoc, capc, rfl, hcc⟩ := hsc
  have HCC := Lib.hid (fun k x h => strAt hcc k x h)
  have hcg : good → ∀ (i : Nat) (x : ByteArray), l1[i]? = some x → codes[i]? = some (want x) := hcg0
  have HBW := Lib.hid hbw
  have c1 := cellBS hbw c0
  clear hcc hcg0 hbw c0 HS
  subst hgoodD
  rw [hcl]
  have hcg := Lib.hid hcg
  by_cases hW : L ≤ lenN
  · have hle : (x0.size : Int) ≤ (lenN : Int) := by omega
    have HWT : Hid (∀ x, want x = dgOf a0 x) := Lib.hid (fun x => by rw [hwant.out]; simp [hW])
    go_wp2_with fail
    clear c1
    go_loopw [64] (fun tk wr => ∃ k : Nat, k ≤ l1.length ∧ tk = .int .i64 k ∧ Hid (∀ i x y, i + 1 < k → l1[i]? = some x → l1[i + 1]? = some y → ¬ L ≤ lenN → preB y lenN (x.extract 0 lenN) = false) ∧ Below w2.heap.size w2 wr) (fun tk _ => l1.length - (intOf tk).toNat)
    case atStart => exact ⟨0, Nat.zero_le _, rfl, Lib.hid (fun i x y h => by omega), Below.refl _ _⟩
    case round =>
      obtain ⟨k, hk, rfl, hall, hb⟩ := hrel
      by_cases hkL : k < l1.length
      · have hkl : (k : Int) < (l1.length : Int) := by omega
        have Hnext : Hid (∀ i x y, i + 1 < k + 1 → l1[i]? = some x → l1[i + 1]? = some y → ¬ L ≤ lenN → preB y lenN (x.extract 0 lenN) = false) := Lib.hid (fun i x y _ _ _ hn => absurd hW hn)
        go_wp2_with fail
        refine reg_framex (fun _ : Unit => [(67, .bool true), (68, .bool false), (69, .bool false), (70, undef), (71, undef), (72, .bool false), (73, .bool false), (74, undef), (75, undef), (76, undef), (77, undef), (78, undef), (79, undef), (80, undef), (81, undef), (82, undef), (83, undef), (84, undef), (85, undef), (86, undef), (87, undef), (88, .bool false)]) (fun _ w' => w' = wr.drew) ?reg ?hq
        case reg =>
          refine wp_region_held_drew (S := fun w' => Hid (True)) (by kernel_rfl) (Lib.hid trivial) (fun hHeld => ?_)
          (try simp only [Act.put, List.getElem_toArray, List.getElem_cons_zero, List.getElem_cons_succ, List.setIfInBounds_toArray, List.set_cons_zero, List.set_cons_succ])
          refine wpAnyH_take (i := 0) (v := ?_) rfl (by kernel_rfl) (by kernel_rfl) (by kernel_rfl) (fun _ _ _ h => nomatch h.1) (Or.inl ⟨by rfl, ?_⟩) (by assumption) ?_
          rotate_left
          · (intro wx hSw; go_simp; (try with_reducible rfl))
          (try simp only [Act.put, List.getElem_toArray, List.getElem_cons_zero, List.getElem_cons_succ, List.setIfInBounds_toArray, List.set_cons_zero, List.set_cons_succ])
          refine wpAnyH_take (i := 1) (v := ?_) rfl (by kernel_rfl) (by kernel_rfl) (by kernel_rfl) (fun _ _ _ h => nomatch h.1) (Or.inl ⟨by rfl, ?_⟩) (by assumption) ?_
          rotate_left
          · (intro wx hSw; go_simp; (try with_reducible rfl))
          (try simp only [Act.put, List.getElem_toArray, List.getElem_cons_zero, List.getElem_cons_succ, List.setIfInBounds_toArray, List.set_cons_zero, List.set_cons_succ])
          refine wpAnyH_take (i := 2) (v := ?_) rfl (by kernel_rfl) (by kernel_rfl) (by kernel_rfl) (fun _ _ _ h => nomatch h.1) (Or.inl ⟨by rfl, ?_⟩) (by assumption) ?_
          rotate_left
          · (intro wx hSw; go_simp; (try with_reducible rfl))
          (try simp only [Act.put, List.getElem_toArray, List.getElem_cons_zero, List.getElem_cons_succ, List.setIfInBounds_toArray, List.set_cons_zero, List.set_cons_succ])
          refine wpAnyH_take (i := 3) (v := undef) rfl (by kernel_rfl) (by kernel_rfl) (by kernel_rfl) (fun _ _ _ h => nomatch h.1) (Or.inr ⟨by rfl, rfl⟩) (by assumption) ?_
          (try simp only [Act.put, List.getElem_toArray, List.getElem_cons_zero, List.getElem_cons_succ, List.setIfInBounds_toArray, List.set_cons_zero, List.set_cons_succ])
          refine wpAnyH_take (i := 4) (v := undef) rfl (by kernel_rfl) (by kernel_rfl) (by kernel_rfl) (fun _ _ _ h => nomatch h.1) (Or.inr ⟨by rfl, rfl⟩) (by assumption) ?_
          (try simp only [Act.put, List.getElem_toArray, List.getElem_cons_zero, List.getElem_cons_succ, List.setIfInBounds_toArray, List.set_cons_zero, List.set_cons_succ])
          refine wpAnyH_take (i := 5) (v := ?_) rfl (by kernel_rfl) (by kernel_rfl) (by kernel_rfl) (fun _ _ _ h => nomatch h.1) (Or.inl ⟨by rfl, ?_⟩) (by assumption) ?_
          rotate_left
          · (intro wx hSw; go_simp; (try with_reducible rfl))
          (try simp only [Act.put, List.getElem_toArray, List.getElem_cons_zero, List.getElem_cons_succ, List.setIfInBounds_toArray, List.set_cons_zero, List.set_cons_succ])
          refine wpAnyH_take (i := 6) (v := ?_) rfl (by kernel_rfl) (by kernel_rfl) (by kernel_rfl) (fun _ _ _ h => nomatch h.1) (Or.inl ⟨by rfl, ?_⟩) (by assumption) ?_
          rotate_left
          · (intro wx hSw; go_simp; (try with_reducible rfl))
          (try simp only [Act.put, List.getElem_toArray, List.getElem_cons_zero, List.getElem_cons_succ, List.setIfInBounds_toArray, List.set_cons_zero, List.set_cons_succ])
          refine wpAnyH_take (i := 7) (v := undef) rfl (by kernel_rfl) (by kernel_rfl) (by kernel_rfl) (fun _ _ _ h => nomatch h.1) (Or.inr ⟨by rfl, rfl⟩) (by assumption) ?_
          (try simp only [Act.put, List.getElem_toArray, List.getElem_cons_zero, List.getElem_cons_succ, List.setIfInBounds_toArray, List.set_cons_zero, List.set_cons_succ])
          refine wpAnyH_take (i := 8) (v := undef) rfl (by kernel_rfl) (by kernel_rfl) (by kernel_rfl) (fun _ _ _ h => nomatch h.1) (Or.inr ⟨by rfl, rfl⟩) (by assumption) ?_
          (try simp only [Act.put, List.getElem_toArray, List.getElem_cons_zero, List.getElem_cons_succ, List.setIfInBounds_toArray, List.set_cons_zero, List.set_cons_succ])
          refine wpAnyH_take (i := 9) (v := undef) rfl (by kernel_rfl) (by kernel_rfl) (by kernel_rfl) (fun _ _ _ h => nomatch h.1) (Or.inr ⟨by rfl, rfl⟩) (by assumption) ?_
          (try simp only [Act.put, List.getElem_toArray, List.getElem_cons_zero, List.getElem_cons_succ, List.setIfInBounds_toArray, List.set_cons_zero, List.set_cons_succ])
          refine wpAnyH_take (i := 10) (v := undef) rfl (by kernel_rfl) (by kernel_rfl) (by kernel_rfl) (fun _ _ _ h => nomatch h.1) (Or.inr ⟨by rfl, rfl⟩) (by assumption) ?_
          (try simp only [Act.put, List.getElem_toArray, List.getElem_cons_zero, List.getElem_cons_succ, List.setIfInBounds_toArray, List.set_cons_zero, List.set_cons_succ])
          refine wpAnyH_take (i := 11) (v := undef) rfl (by kernel_rfl) (by kernel_rfl) (by kernel_rfl) (fun _ _ _ h => nomatch h.1) (Or.inr ⟨by rfl, rfl⟩) (by assumption) ?_
          (try simp only [Act.put, List.getElem_toArray, List.getElem_cons_zero, List.getElem_cons_succ, List.setIfInBounds_toArray, List.set_cons_zero, List.set_cons_succ])
          refine wpAnyH_take (i := 12) (v := undef) rfl (by kernel_rfl) (by kernel_rfl) (by kernel_rfl) (fun _ _ _ h => nomatch h.1) (Or.inr ⟨by rfl, rfl⟩) (by assumption) ?_
          (try simp only [Act.put, List.getElem_toArray, List.getElem_cons_zero, List.getElem_cons_succ, List.setIfInBounds_toArray, List.set_cons_zero, List.set_cons_succ])
          refine wpAnyH_take (i := 13) (v := undef) rfl (by kernel_rfl) (by kernel_rfl) (by kernel_rfl) (fun _ _ _ h => nomatch h.1) (Or.inr ⟨by rfl, rfl⟩) (by assumption) ?_
          (try simp only [Act.put, List.getElem_toArray, List.getElem_cons_zero, List.getElem_cons_succ, List.setIfInBounds_toArray, List.set_cons_zero, List.set_cons_succ])
          refine wpAnyH_take (i := 14) (v := undef) rfl (by kernel_rfl) (by kernel_rfl) (by kernel_rfl) (fun _ _ _ h => nomatch h.1) (Or.inr ⟨by rfl, rfl⟩) (by assumption) ?_
          (try simp only [Act.put, List.getElem_toArray, List.getElem_cons_zero, List.getElem_cons_succ, List.setIfInBounds_toArray, List.set_cons_zero, List.set_cons_succ])
          refine wpAnyH_take (i := 15) (v := undef) rfl (by kernel_rfl) (by kernel_rfl) (by kernel_rfl) (fun _ _ _ h => nomatch h.1) (Or.inr ⟨by rfl, rfl⟩) (by assumption) ?_
          (try simp only [Act.put, List.getElem_toArray, List.getElem_cons_zero, List.getElem_cons_succ, List.setIfInBounds_toArray, List.set_cons_zero, List.set_cons_succ])
          refine wpAnyH_take (i := 16) (v := undef) rfl (by kernel_rfl) (by kernel_rfl) (by kernel_rfl) (fun _ _ _ h => nomatch h.1) (Or.inr ⟨by rfl, rfl⟩) (by assumption) ?_
          (try simp only [Act.put, List.getElem_toArray, List.getElem_cons_zero, List.getElem_cons_succ, List.setIfInBounds_toArray, List.set_cons_zero, List.set_cons_succ])
          refine wpAnyH_take (i := 17) (v := undef) rfl (by kernel_rfl) (by kernel_rfl) (by kernel_rfl) (fun _ _ _ h => nomatch h.1) (Or.inr ⟨by rfl, rfl⟩) (by assumption) ?_
          (try simp only [Act.put, List.getElem_toArray, List.getElem_cons_zero, List.getElem_cons_succ, List.setIfInBounds_toArray, List.set_cons_zero, List.set_cons_succ])
          refine wpAnyH_take (i := 18) (v := undef) rfl (by kernel_rfl) (by kernel_rfl) (by kernel_rfl) (fun _ _ _ h => nomatch h.1) (Or.inr ⟨by rfl, rfl⟩) (by assumption) ?_
          (try simp only [Act.put, List.getElem_toArray, List.getElem_cons_zero, List.getElem_cons_succ, List.setIfInBounds_toArray, List.set_cons_zero, List.set_cons_succ])
          refine wpAnyH_take (i := 19) (v := undef) rfl (by kernel_rfl) (by kernel_rfl) (by kernel_rfl) (fun _ _ _ h => nomatch h.1) (Or.inr ⟨by rfl, rfl⟩) (by assumption) ?_
          (try simp only [Act.put, List.getElem_toArray, List.getElem_cons_zero, List.getElem_cons_succ, List.setIfInBounds_toArray, List.set_cons_zero, List.set_cons_succ])
          refine wpAnyH_take (i := 20) (v := undef) rfl (by kernel_rfl) (by kernel_rfl) (by kernel_rfl) (fun _ _ _ h => nomatch h.1) (Or.inr ⟨by rfl, rfl⟩) (by assumption) ?_
          (try simp only [Act.put, List.getElem_toArray, List.getElem_cons_zero, List.getElem_cons_succ, List.setIfInBounds_toArray, List.set_cons_zero, List.set_cons_succ])
          refine wpAnyH_take (i := 21) (v := ?_) rfl (by kernel_rfl) (by kernel_rfl) (by kernel_rfl) (fun _ _ _ h => nomatch h.1) (Or.inl ⟨by rfl, ?_⟩) (by assumption) ?_
          rotate_left
          · (intro wx hSw; go_simp; (try with_reducible rfl))
          (try simp only [Act.put, List.getElem_toArray, List.getElem_cons_zero, List.getElem_cons_succ, List.setIfInBounds_toArray, List.set_cons_zero, List.set_cons_succ])
          refine wpAnyH_done (by kernel_rfl) ?_ _
          exact ⟨rfl, (), by (simp only [puts, Act.put, List.setIfInBounds_toArray, List.set_cons_zero, List.set_cons_succ]), rfl⟩
        case hq =>
        rintro _ _ rfl
        (simp only [puts, Act.put, List.setIfInBounds_toArray, List.set_cons_zero, List.set_cons_succ])
        go_wp2_with fail
        go_roundw
        case rel => exact ⟨k + 1, by omega, by go_num, Hnext, hb.drew⟩
        case measure => simp [intOf]; omega
      · obtain rfl : k = l1.length := by omega
        have hgd : (¬ L ≤ lenN → ∀ i x y, l1[i]? = some x → l1[i + 1]? = some y → preB y lenN (x.extract 0 lenN) = false) := fun hn i x y h1 h2 => hall.out i x y (by have := (List.getElem?_eq_some_iff.1 h2).1; omega) h1 h2 hn
        have HCG := Lib.hid (hcg.out hgd)
        clear hall
        go_wp2_with fail
        obtain ⟨w3, hw3⟩ : ∃ w3, Hid (w3 = wr) := ⟨_, rfl⟩
        rw [← hw3.out] at hb ⊢
        clear hw3
        (try clear wr)
        go_loopw [92] (fun tk wr => ∃ k : Nat, k ≤ l1.length ∧ tk = .int .i64 k ∧ Below w2.heap.size w2 wr) (fun tk _ => l1.length - (intOf tk).toNat)
        case atStart => exact ⟨0, Nat.zero_le _, rfl, hb⟩
        case round =>
          clear hb
          obtain ⟨k, hk, rfl, hb⟩ := hrel
          by_cases hkL : k < l1.length
          · obtain ⟨x, hlx⟩ : ∃ x, l1[k]? = some x := ⟨l1[k], List.getElem?_eq_getElem hkL⟩
            have hbw := HBW.out.trans (hb.mono HBW.out.size)
            have k0 := cellBS hbw (HC.out k x hlx)
            obtain ⟨b2, o2, rfl, k10⟩ := HCC.out k (want x) (HCG.out k x hlx)
            have k1 := cellBS hb k10
            rw [HWT.out] at k1
            have hxL := HL.out x (List.mem_of_getElem? hlx)
            have hkl : (k : Int) < (l1.length : Int) := by omega
            clear k10 hbw hlx
            unfold dgOf at k1
            go_wp2_with fail
            go_roundw
            case rel => exact ⟨k + 1, by omega, by go_num, hb⟩
            case measure => simp [intOf]; omega
          · obtain rfl : k = l1.length := by omega
            go_wp2_with fail
            go_ret
            exact ⟨rfl, HBW.out.trans (hb.mono HBW.out.size)⟩
  · have hle : ¬ ((x0.size : Int) ≤ (lenN : Int)) := by omega
    have hlt : (lenN : Int) < (x0.size : Int) := by omega
    have hlL : lenN ≤ L := by omega
    have HWT : Hid (∀ x, want x = x.extract 0 lenN) := Lib.hid (fun x => by rw [hwant.out]; simp [hW])
    go_wp2_with fail
    clear c1
    go_loopw [64] (fun tk wr => ∃ k : Nat, k ≤ l1.length ∧ tk = .int .i64 k ∧ Hid (∀ i x y, i + 1 < k → l1[i]? = some x → l1[i + 1]? = some y → ¬ L ≤ lenN → preB y lenN (x.extract 0 lenN) = false) ∧ Below w2.heap.size w2 wr) (fun tk _ => l1.length - (intOf tk).toNat)
    case atStart => exact ⟨0, Nat.zero_le _, rfl, Lib.hid (fun i x y h => by omega), Below.refl _ _⟩
    case round =>
      obtain ⟨k, hk, rfl, hall, hb⟩ := hrel
      by_cases hkL : k < l1.length
      · have hkl : (k : Int) < (l1.length : Int) := by omega
        cases k with
        | zero =>
          have Hnext : Hid (∀ i x y, i + 1 < 0 + 1 → l1[i]? = some x → l1[i + 1]? = some y → ¬ L ≤ lenN → preB y lenN (x.extract 0 lenN) = false) := Lib.hid (fun i x y h => by omega)
          go_wp2_with fail
          refine reg_framex (fun _ : Unit => [(67, .bool false), (68, .bool true), (69, .bool true), (70, .int .i64 0), (71, .bool false), (72, .bool false), (73, .bool false), (74, undef), (75, undef), (76, undef), (77, undef), (78, undef), (79, undef), (80, undef), (81, undef), (82, undef), (83, undef), (84, undef), (85, undef), (86, undef), (87, undef), (88, .bool false)]) (fun _ w' => w' = wr.drew) ?reg ?hq
          case reg =>
            refine wp_region_held_drew (S := fun w' => Hid (True)) (by kernel_rfl) (Lib.hid trivial) (fun hHeld => ?_)
            (try simp only [Act.put, List.getElem_toArray, List.getElem_cons_zero, List.getElem_cons_succ, List.setIfInBounds_toArray, List.set_cons_zero, List.set_cons_succ])
            refine wpAnyH_take (i := 0) (v := ?_) rfl (by kernel_rfl) (by kernel_rfl) (by kernel_rfl) (fun _ _ _ h => nomatch h.1) (Or.inl ⟨by rfl, ?_⟩) (by assumption) ?_
            rotate_left
            · (intro wx hSw; go_simp; (try with_reducible rfl))
            (try simp only [Act.put, List.getElem_toArray, List.getElem_cons_zero, List.getElem_cons_succ, List.setIfInBounds_toArray, List.set_cons_zero, List.set_cons_succ])
            refine wpAnyH_take (i := 1) (v := ?_) rfl (by kernel_rfl) (by kernel_rfl) (by kernel_rfl) (fun _ _ _ h => nomatch h.1) (Or.inl ⟨by rfl, ?_⟩) (by assumption) ?_
            rotate_left
            · (intro wx hSw; go_simp; (try with_reducible rfl))
            (try simp only [Act.put, List.getElem_toArray, List.getElem_cons_zero, List.getElem_cons_succ, List.setIfInBounds_toArray, List.set_cons_zero, List.set_cons_succ])
            refine wpAnyH_take (i := 2) (v := ?_) rfl (by kernel_rfl) (by kernel_rfl) (by kernel_rfl) (fun _ _ _ h => nomatch h.1) (Or.inl ⟨by rfl, ?_⟩) (by assumption) ?_
            rotate_left
            · (intro wx hSw; go_simp; (try with_reducible rfl))
            (try simp only [Act.put, List.getElem_toArray, List.getElem_cons_zero, List.getElem_cons_succ, List.setIfInBounds_toArray, List.set_cons_zero, List.set_cons_succ])
            refine wpAnyH_take (i := 3) (v := ?_) rfl (by kernel_rfl) (by kernel_rfl) (by kernel_rfl) (fun _ _ _ h => nomatch h.1) (Or.inl ⟨by rfl, ?_⟩) (by assumption) ?_
            rotate_left
            · (intro wx hSw; go_simp; (try with_reducible rfl))
            (try simp only [Act.put, List.getElem_toArray, List.getElem_cons_zero, List.getElem_cons_succ, List.setIfInBounds_toArray, List.set_cons_zero, List.set_cons_succ])
            refine wpAnyH_take (i := 4) (v := ?_) rfl (by kernel_rfl) (by kernel_rfl) (by kernel_rfl) (fun _ _ _ h => nomatch h.1) (Or.inl ⟨by rfl, ?_⟩) (by assumption) ?_
            rotate_left
            · (intro wx hSw; go_simp; (try with_reducible rfl))
            (try simp only [Act.put, List.getElem_toArray, List.getElem_cons_zero, List.getElem_cons_succ, List.setIfInBounds_toArray, List.set_cons_zero, List.set_cons_succ])
            refine wpAnyH_take (i := 5) (v := ?_) rfl (by kernel_rfl) (by kernel_rfl) (by kernel_rfl) (fun _ _ _ h => nomatch h.1) (Or.inl ⟨by rfl, ?_⟩) (by assumption) ?_
            rotate_left
            · (intro wx hSw; go_simp; (try with_reducible rfl))
            (try simp only [Act.put, List.getElem_toArray, List.getElem_cons_zero, List.getElem_cons_succ, List.setIfInBounds_toArray, List.set_cons_zero, List.set_cons_succ])
            refine wpAnyH_take (i := 6) (v := ?_) rfl (by kernel_rfl) (by kernel_rfl) (by kernel_rfl) (fun _ _ _ h => nomatch h.1) (Or.inl ⟨by rfl, ?_⟩) (by assumption) ?_
            rotate_left
            · (intro wx hSw; go_simp; (try with_reducible rfl))
            (try simp only [Act.put, List.getElem_toArray, List.getElem_cons_zero, List.getElem_cons_succ, List.setIfInBounds_toArray, List.set_cons_zero, List.set_cons_succ])
            refine wpAnyH_take (i := 7) (v := undef) rfl (by kernel_rfl) (by kernel_rfl) (by kernel_rfl) (fun _ _ _ h => nomatch h.1) (Or.inr ⟨by rfl, rfl⟩) (by assumption) ?_
            (try simp only [Act.put, List.getElem_toArray, List.getElem_cons_zero, List.getElem_cons_succ, List.setIfInBounds_toArray, List.set_cons_zero, List.set_cons_succ])
            refine wpAnyH_take (i := 8) (v := undef) rfl (by kernel_rfl) (by kernel_rfl) (by kernel_rfl) (fun _ _ _ h => nomatch h.1) (Or.inr ⟨by rfl, rfl⟩) (by assumption) ?_
            (try simp only [Act.put, List.getElem_toArray, List.getElem_cons_zero, List.getElem_cons_succ, List.setIfInBounds_toArray, List.set_cons_zero, List.set_cons_succ])
            refine wpAnyH_take (i := 9) (v := undef) rfl (by kernel_rfl) (by kernel_rfl) (by kernel_rfl) (fun _ _ _ h => nomatch h.1) (Or.inr ⟨by rfl, rfl⟩) (by assumption) ?_
            (try simp only [Act.put, List.getElem_toArray, List.getElem_cons_zero, List.getElem_cons_succ, List.setIfInBounds_toArray, List.set_cons_zero, List.set_cons_succ])
            refine wpAnyH_take (i := 10) (v := undef) rfl (by kernel_rfl) (by kernel_rfl) (by kernel_rfl) (fun _ _ _ h => nomatch h.1) (Or.inr ⟨by rfl, rfl⟩) (by assumption) ?_
            (try simp only [Act.put, List.getElem_toArray, List.getElem_cons_zero, List.getElem_cons_succ, List.setIfInBounds_toArray, List.set_cons_zero, List.set_cons_succ])
            refine wpAnyH_take (i := 11) (v := undef) rfl (by kernel_rfl) (by kernel_rfl) (by kernel_rfl) (fun _ _ _ h => nomatch h.1) (Or.inr ⟨by rfl, rfl⟩) (by assumption) ?_
            (try simp only [Act.put, List.getElem_toArray, List.getElem_cons_zero, List.getElem_cons_succ, List.setIfInBounds_toArray, List.set_cons_zero, List.set_cons_succ])
            refine wpAnyH_take (i := 12) (v := undef) rfl (by kernel_rfl) (by kernel_rfl) (by kernel_rfl) (fun _ _ _ h => nomatch h.1) (Or.inr ⟨by rfl, rfl⟩) (by assumption) ?_
            (try simp only [Act.put, List.getElem_toArray, List.getElem_cons_zero, List.getElem_cons_succ, List.setIfInBounds_toArray, List.set_cons_zero, List.set_cons_succ])
            refine wpAnyH_take (i := 13) (v := undef) rfl (by kernel_rfl) (by kernel_rfl) (by kernel_rfl) (fun _ _ _ h => nomatch h.1) (Or.inr ⟨by rfl, rfl⟩) (by assumption) ?_
            (try simp only [Act.put, List.getElem_toArray, List.getElem_cons_zero, List.getElem_cons_succ, List.setIfInBounds_toArray, List.set_cons_zero, List.set_cons_succ])
            refine wpAnyH_take (i := 14) (v := undef) rfl (by kernel_rfl) (by kernel_rfl) (by kernel_rfl) (fun _ _ _ h => nomatch h.1) (Or.inr ⟨by rfl, rfl⟩) (by assumption) ?_
            (try simp only [Act.put, List.getElem_toArray, List.getElem_cons_zero, List.getElem_cons_succ, List.setIfInBounds_toArray, List.set_cons_zero, List.set_cons_succ])
            refine wpAnyH_take (i := 15) (v := undef) rfl (by kernel_rfl) (by kernel_rfl) (by kernel_rfl) (fun _ _ _ h => nomatch h.1) (Or.inr ⟨by rfl, rfl⟩) (by assumption) ?_
            (try simp only [Act.put, List.getElem_toArray, List.getElem_cons_zero, List.getElem_cons_succ, List.setIfInBounds_toArray, List.set_cons_zero, List.set_cons_succ])
            refine wpAnyH_take (i := 16) (v := undef) rfl (by kernel_rfl) (by kernel_rfl) (by kernel_rfl) (fun _ _ _ h => nomatch h.1) (Or.inr ⟨by rfl, rfl⟩) (by assumption) ?_
            (try simp only [Act.put, List.getElem_toArray, List.getElem_cons_zero, List.getElem_cons_succ, List.setIfInBounds_toArray, List.set_cons_zero, List.set_cons_succ])
            refine wpAnyH_take (i := 17) (v := undef) rfl (by kernel_rfl) (by kernel_rfl) (by kernel_rfl) (fun _ _ _ h => nomatch h.1) (Or.inr ⟨by rfl, rfl⟩) (by assumption) ?_
            (try simp only [Act.put, List.getElem_toArray, List.getElem_cons_zero, List.getElem_cons_succ, List.setIfInBounds_toArray, List.set_cons_zero, List.set_cons_succ])
            refine wpAnyH_take (i := 18) (v := undef) rfl (by kernel_rfl) (by kernel_rfl) (by kernel_rfl) (fun _ _ _ h => nomatch h.1) (Or.inr ⟨by rfl, rfl⟩) (by assumption) ?_
            (try simp only [Act.put, List.getElem_toArray, List.getElem_cons_zero, List.getElem_cons_succ, List.setIfInBounds_toArray, List.set_cons_zero, List.set_cons_succ])
            refine wpAnyH_take (i := 19) (v := undef) rfl (by kernel_rfl) (by kernel_rfl) (by kernel_rfl) (fun _ _ _ h => nomatch h.1) (Or.inr ⟨by rfl, rfl⟩) (by assumption) ?_
            (try simp only [Act.put, List.getElem_toArray, List.getElem_cons_zero, List.getElem_cons_succ, List.setIfInBounds_toArray, List.set_cons_zero, List.set_cons_succ])
            refine wpAnyH_take (i := 20) (v := undef) rfl (by kernel_rfl) (by kernel_rfl) (by kernel_rfl) (fun _ _ _ h => nomatch h.1) (Or.inr ⟨by rfl, rfl⟩) (by assumption) ?_
            (try simp only [Act.put, List.getElem_toArray, List.getElem_cons_zero, List.getElem_cons_succ, List.setIfInBounds_toArray, List.set_cons_zero, List.set_cons_succ])
            refine wpAnyH_take (i := 21) (v := ?_) rfl (by kernel_rfl) (by kernel_rfl) (by kernel_rfl) (fun _ _ _ h => nomatch h.1) (Or.inl ⟨by rfl, ?_⟩) (by assumption) ?_
            rotate_left
            · (intro wx hSw; go_simp; (try with_reducible rfl))
            (try simp only [Act.put, List.getElem_toArray, List.getElem_cons_zero, List.getElem_cons_succ, List.setIfInBounds_toArray, List.set_cons_zero, List.set_cons_succ])
            refine wpAnyH_done (by kernel_rfl) ?_ _
            exact ⟨rfl, (), by (simp only [puts, Act.put, List.setIfInBounds_toArray, List.set_cons_zero, List.set_cons_succ]), rfl⟩
          case hq =>
          rintro _ _ rfl
          (simp only [puts, Act.put, List.setIfInBounds_toArray, List.set_cons_zero, List.set_cons_succ])
          go_wp2_with fail
          go_roundw
          case rel => exact ⟨1, by omega, by go_num, Hnext, hb.drew⟩
          case measure => simp [intOf]; omega
        | succ k =>
          obtain ⟨x, hlx⟩ : ∃ x, l1[k + 1]? = some x := ⟨l1[k + 1], List.getElem?_eq_getElem hkL⟩
          obtain ⟨y, hly⟩ : ∃ y, l1[k]? = some y := ⟨l1[k]'(by omega), List.getElem?_eq_getElem (by omega)⟩
          have hbw := HBW.out.trans (hb.drew.mono HBW.out.size)
          have k0 := cellBS hbw (HC.out (k + 1) x hlx)
          have k1 := cellBS hbw (HC.out k y hly)
          have hxL := HL.out x (List.mem_of_getElem? hlx)
          have hyL := HL.out y (List.mem_of_getElem? hly)
          obtain ⟨m, hm⟩ : ∃ m : Int, ((k + 1 : Nat) : Int) = m := ⟨_, rfl⟩
          have hm0 : (0 : Int) < m := by omega
          have hkn : k < l1.length := by omega
          have hm1 : IntKind.wrap .i64 (m - 1) = (k : Int) := by rw [IntWalk.i64_in _ (by omega)]; omega
          have hkl2 : m < (l1.length : Int) := by omega
          obtain ⟨bb, hbb⟩ : ∃ bb, preB x lenN (y.extract 0 lenN) = bb := ⟨_, rfl⟩
          have Hbb := Lib.hid hbb
          have Hlx := Lib.hid hlx
          have Hly := Lib.hid hly
          have hm2 : m.toNat = k + 1 := by omega
          have hm3 : (0 ≤ m) = True := eq_true (by omega)
          clear hbb hlx hly hbw
          go_wp2_with fail
          refine reg_framex (fun _ : Unit => [(67, .bool false), (68, .bool true), (69, .bool true), (70, .int .i64 m), (71, .bool true), (72, .bool true), (73, .bool true), (74, .slice (some ⟨ab, aoff, none⟩) l1.length cap), (75, .int .i64 m), (76, .pointer (some ⟨ab, aoff + (k + 1), none⟩)), (77, .string x), (78, .int .i64 lenN), (79, .string (x.extract 0 lenN)), (80, .slice (some ⟨ab, aoff, none⟩) l1.length cap), (81, .int .i64 m), (82, .int .i64 k), (83, .pointer (some ⟨ab, aoff + k, none⟩)), (84, .string y), (85, .int .i64 lenN), (86, .string (y.extract 0 lenN)), (87, .bool bb), (88, .bool bb)]) (fun _ w' => w' = wr.drew) ?reg ?hq
          case reg =>
            refine wp_region_held_drew (S := fun w' => Hid (w'.cell? ⟨ab, aoff + (k + 1), none⟩ = some (.string x) ∧ w'.cell? ⟨ab, aoff + k, none⟩ = some (.string y))) (by kernel_rfl) (Lib.hid ⟨k0, k1⟩) (fun hHeld => ?_)
            (try simp only [Act.put, List.getElem_toArray, List.getElem_cons_zero, List.getElem_cons_succ, List.setIfInBounds_toArray, List.set_cons_zero, List.set_cons_succ])
            refine wpAnyH_take (i := 0) (v := ?_) rfl (by kernel_rfl) (by kernel_rfl) (by kernel_rfl) (fun _ _ _ h => nomatch h.1) (Or.inl ⟨by rfl, ?_⟩) (by assumption) ?_
            rotate_left
            · (intro wx hSw; go_simp; (try with_reducible rfl))
            (try simp only [Act.put, List.getElem_toArray, List.getElem_cons_zero, List.getElem_cons_succ, List.setIfInBounds_toArray, List.set_cons_zero, List.set_cons_succ])
            refine wpAnyH_take (i := 1) (v := ?_) rfl (by kernel_rfl) (by kernel_rfl) (by kernel_rfl) (fun _ _ _ h => nomatch h.1) (Or.inl ⟨by rfl, ?_⟩) (by assumption) ?_
            rotate_left
            · (intro wx hSw; go_simp; (try with_reducible rfl))
            (try simp only [Act.put, List.getElem_toArray, List.getElem_cons_zero, List.getElem_cons_succ, List.setIfInBounds_toArray, List.set_cons_zero, List.set_cons_succ])
            refine wpAnyH_take (i := 2) (v := ?_) rfl (by kernel_rfl) (by kernel_rfl) (by kernel_rfl) (fun _ _ _ h => nomatch h.1) (Or.inl ⟨by rfl, ?_⟩) (by assumption) ?_
            rotate_left
            · (intro wx hSw; go_simp; (try with_reducible rfl))
            (try simp only [Act.put, List.getElem_toArray, List.getElem_cons_zero, List.getElem_cons_succ, List.setIfInBounds_toArray, List.set_cons_zero, List.set_cons_succ])
            refine wpAnyH_take (i := 3) (v := ?_) rfl (by kernel_rfl) (by kernel_rfl) (by kernel_rfl) (fun _ _ _ h => nomatch h.1) (Or.inl ⟨by rfl, ?_⟩) (by assumption) ?_
            rotate_left
            · (intro wx hSw; go_simp; (try with_reducible rfl))
            (try simp only [Act.put, List.getElem_toArray, List.getElem_cons_zero, List.getElem_cons_succ, List.setIfInBounds_toArray, List.set_cons_zero, List.set_cons_succ])
            refine wpAnyH_take (i := 4) (v := ?_) rfl (by kernel_rfl) (by kernel_rfl) (by kernel_rfl) (fun _ _ _ h => nomatch h.1) (Or.inl ⟨by rfl, ?_⟩) (by assumption) ?_
            rotate_left
            · (intro wx hSw; go_simp; (try with_reducible rfl))
            (try simp only [Act.put, List.getElem_toArray, List.getElem_cons_zero, List.getElem_cons_succ, List.setIfInBounds_toArray, List.set_cons_zero, List.set_cons_succ])
            refine wpAnyH_take (i := 5) (v := ?_) rfl (by kernel_rfl) (by kernel_rfl) (by kernel_rfl) (fun _ _ _ h => nomatch h.1) (Or.inl ⟨by rfl, ?_⟩) (by assumption) ?_
            rotate_left
            · (intro wx hSw; go_simp; (try with_reducible rfl))
            (try simp only [Act.put, List.getElem_toArray, List.getElem_cons_zero, List.getElem_cons_succ, List.setIfInBounds_toArray, List.set_cons_zero, List.set_cons_succ])
            refine wpAnyH_take (i := 6) (v := ?_) rfl (by kernel_rfl) (by kernel_rfl) (by kernel_rfl) (fun _ _ _ h => nomatch h.1) (Or.inl ⟨by rfl, ?_⟩) (by assumption) ?_
            rotate_left
            · (intro wx hSw; go_simp; (try with_reducible rfl))
            (try simp only [Act.put, List.getElem_toArray, List.getElem_cons_zero, List.getElem_cons_succ, List.setIfInBounds_toArray, List.set_cons_zero, List.set_cons_succ])
            refine wpAnyH_take (i := 7) (v := ?_) rfl (by kernel_rfl) (by kernel_rfl) (by kernel_rfl) (fun _ _ _ h => nomatch h.1) (Or.inl ⟨by rfl, ?_⟩) (by assumption) ?_
            rotate_left
            · (intro wx hSw; go_simp; (try with_reducible rfl))
            (try simp only [Act.put, List.getElem_toArray, List.getElem_cons_zero, List.getElem_cons_succ, List.setIfInBounds_toArray, List.set_cons_zero, List.set_cons_succ])
            refine wpAnyH_take (i := 8) (v := ?_) rfl (by kernel_rfl) (by kernel_rfl) (by kernel_rfl) (fun _ _ _ h => nomatch h.1) (Or.inl ⟨by rfl, ?_⟩) (by assumption) ?_
            rotate_left
            · (intro wx hSw; go_simp; (try with_reducible rfl))
            (try simp only [Act.put, List.getElem_toArray, List.getElem_cons_zero, List.getElem_cons_succ, List.setIfInBounds_toArray, List.set_cons_zero, List.set_cons_succ])
            refine wpAnyH_take (i := 9) (v := ?_) rfl (by kernel_rfl) (by kernel_rfl) (by kernel_rfl) (fun _ _ _ h => nomatch h.1) (Or.inl ⟨by rfl, ?_⟩) (by assumption) ?_
            rotate_left
            · (intro wx hSw; go_simp; (try with_reducible rfl))
            (try simp only [Act.put, List.getElem_toArray, List.getElem_cons_zero, List.getElem_cons_succ, List.setIfInBounds_toArray, List.set_cons_zero, List.set_cons_succ])
            refine wpAnyH_take (i := 10) (v := ?_) rfl (by kernel_rfl) (by kernel_rfl) (by kernel_rfl) (fun _ _ _ h => nomatch h.1) (Or.inl ⟨by rfl, ?_⟩) (by assumption) ?_
            rotate_left
            · (intro wx hSw; have k0 := hSw.out.1; go_simp; (try with_reducible rfl))
            (try simp only [Act.put, List.getElem_toArray, List.getElem_cons_zero, List.getElem_cons_succ, List.setIfInBounds_toArray, List.set_cons_zero, List.set_cons_succ])
            refine wpAnyH_take (i := 11) (v := ?_) rfl (by kernel_rfl) (by kernel_rfl) (by kernel_rfl) (fun _ _ _ h => nomatch h.1) (Or.inl ⟨by rfl, ?_⟩) (by assumption) ?_
            rotate_left
            · (intro wx hSw; go_simp; (try with_reducible rfl))
            (try simp only [Act.put, List.getElem_toArray, List.getElem_cons_zero, List.getElem_cons_succ, List.setIfInBounds_toArray, List.set_cons_zero, List.set_cons_succ])
            refine wpAnyH_take (i := 12) (v := ?_) rfl (by kernel_rfl) (by kernel_rfl) (by kernel_rfl) (fun _ _ _ h => nomatch h.1) (Or.inl ⟨by rfl, ?_⟩) (by assumption) ?_
            rotate_left
            · (intro wx hSw; go_simp; (try with_reducible rfl))
            (try simp only [Act.put, List.getElem_toArray, List.getElem_cons_zero, List.getElem_cons_succ, List.setIfInBounds_toArray, List.set_cons_zero, List.set_cons_succ])
            refine wpAnyH_take (i := 13) (v := ?_) rfl (by kernel_rfl) (by kernel_rfl) (by kernel_rfl) (fun _ _ _ h => nomatch h.1) (Or.inl ⟨by rfl, ?_⟩) (by assumption) ?_
            rotate_left
            · (intro wx hSw; go_simp; (try with_reducible rfl))
            (try simp only [Act.put, List.getElem_toArray, List.getElem_cons_zero, List.getElem_cons_succ, List.setIfInBounds_toArray, List.set_cons_zero, List.set_cons_succ])
            refine wpAnyH_take (i := 14) (v := ?_) rfl (by kernel_rfl) (by kernel_rfl) (by kernel_rfl) (fun _ _ _ h => nomatch h.1) (Or.inl ⟨by rfl, ?_⟩) (by assumption) ?_
            rotate_left
            · (intro wx hSw; go_simp; (try with_reducible rfl))
            (try simp only [Act.put, List.getElem_toArray, List.getElem_cons_zero, List.getElem_cons_succ, List.setIfInBounds_toArray, List.set_cons_zero, List.set_cons_succ])
            refine wpAnyH_take (i := 15) (v := ?_) rfl (by kernel_rfl) (by kernel_rfl) (by kernel_rfl) (fun _ _ _ h => nomatch h.1) (Or.inl ⟨by rfl, ?_⟩) (by assumption) ?_
            rotate_left
            · (intro wx hSw; go_simp; (try with_reducible rfl))
            (try simp only [Act.put, List.getElem_toArray, List.getElem_cons_zero, List.getElem_cons_succ, List.setIfInBounds_toArray, List.set_cons_zero, List.set_cons_succ])
            refine wpAnyH_take (i := 16) (v := ?_) rfl (by kernel_rfl) (by kernel_rfl) (by kernel_rfl) (fun _ _ _ h => nomatch h.1) (Or.inl ⟨by rfl, ?_⟩) (by assumption) ?_
            rotate_left
            · (intro wx hSw; go_simp; (try with_reducible rfl))
            (try simp only [Act.put, List.getElem_toArray, List.getElem_cons_zero, List.getElem_cons_succ, List.setIfInBounds_toArray, List.set_cons_zero, List.set_cons_succ])
            refine wpAnyH_take (i := 17) (v := ?_) rfl (by kernel_rfl) (by kernel_rfl) (by kernel_rfl) (fun _ _ _ h => nomatch h.1) (Or.inl ⟨by rfl, ?_⟩) (by assumption) ?_
            rotate_left
            · (intro wx hSw; have k0 := hSw.out.2; go_simp; (try with_reducible rfl))
            (try simp only [Act.put, List.getElem_toArray, List.getElem_cons_zero, List.getElem_cons_succ, List.setIfInBounds_toArray, List.set_cons_zero, List.set_cons_succ])
            refine wpAnyH_take (i := 18) (v := ?_) rfl (by kernel_rfl) (by kernel_rfl) (by kernel_rfl) (fun _ _ _ h => nomatch h.1) (Or.inl ⟨by rfl, ?_⟩) (by assumption) ?_
            rotate_left
            · (intro wx hSw; go_simp; (try with_reducible rfl))
            (try simp only [Act.put, List.getElem_toArray, List.getElem_cons_zero, List.getElem_cons_succ, List.setIfInBounds_toArray, List.set_cons_zero, List.set_cons_succ])
            refine wpAnyH_take (i := 19) (v := ?_) rfl (by kernel_rfl) (by kernel_rfl) (by kernel_rfl) (fun _ _ _ h => nomatch h.1) (Or.inl ⟨by rfl, ?_⟩) (by assumption) ?_
            rotate_left
            · (intro wx hSw; go_simp; (try with_reducible rfl))
            (try simp only [Act.put, List.getElem_toArray, List.getElem_cons_zero, List.getElem_cons_succ, List.setIfInBounds_toArray, List.set_cons_zero, List.set_cons_succ])
            refine wpAnyH_take (i := 20) (v := ?_) rfl (by kernel_rfl) (by kernel_rfl) (by kernel_rfl) (fun _ _ _ h => nomatch h.1) (Or.inl ⟨by rfl, ?_⟩) (by assumption) ?_
            rotate_left
            · (intro wx hSw; go_simp; (try with_reducible rfl))
            (try simp only [Act.put, List.getElem_toArray, List.getElem_cons_zero, List.getElem_cons_succ, List.setIfInBounds_toArray, List.set_cons_zero, List.set_cons_succ])
            rw [show ((x.extract 0 lenN).toList == (y.extract 0 lenN).toList) = bb from Hbb.out]
            refine wpAnyH_take (i := 21) (v := ?_) rfl (by kernel_rfl) (by kernel_rfl) (by kernel_rfl) (fun _ _ _ h => nomatch h.1) (Or.inl ⟨by rfl, ?_⟩) (by assumption) ?_
            rotate_left
            · (intro wx hSw; go_simp; (try with_reducible rfl))
            (try simp only [Act.put, List.getElem_toArray, List.getElem_cons_zero, List.getElem_cons_succ, List.setIfInBounds_toArray, List.set_cons_zero, List.set_cons_succ])
            refine wpAnyH_done (by kernel_rfl) ?_ _
            exact ⟨rfl, (), by (simp only [puts, Act.put, List.setIfInBounds_toArray, List.set_cons_zero, List.set_cons_succ]), rfl⟩
          case hq =>
          rintro _ _ rfl
          (simp only [puts, Act.put, List.setIfInBounds_toArray, List.set_cons_zero, List.set_cons_succ])
          cases bb with
          | true =>
            go_wp2_with fail
            go_ret
            exact ⟨rfl, HBW.out.trans (hb.drew.mono HBW.out.size)⟩
          | false =>
            have Hnext : Hid (∀ i x y, i + 1 < k + 1 + 1 → l1[i]? = some x → l1[i + 1]? = some y → ¬ L ≤ lenN → preB y lenN (x.extract 0 lenN) = false) := Lib.hid (fun i p q hi hp hq hn => by
              by_cases e : i = k
              · subst e
                rw [Hly.out] at hp
                rw [Hlx.out] at hq
                rw [← Option.some.inj hp, ← Option.some.inj hq]; exact Hbb.out
              · exact hall.out i p q (by omega) hp hq hn)
            go_wp2_with fail
            go_roundw
            case rel => exact ⟨k + 1 + 1, by omega, by first | go_num | (rw [← hm]; go_num), Hnext, hb.drew⟩
            case measure => simp [intOf]; omega
      · obtain rfl : k = l1.length := by omega
        have hgd : (¬ L ≤ lenN → ∀ i x y, l1[i]? = some x → l1[i + 1]? = some y → preB y lenN (x.extract 0 lenN) = false) := fun hn i x y h1 h2 => hall.out i x y (by have := (List.getElem?_eq_some_iff.1 h2).1; omega) h1 h2 hn
        have HCG := Lib.hid (hcg.out hgd)
        clear hall
        go_wp2_with fail
        obtain ⟨w3, hw3⟩ : ∃ w3, Hid (w3 = wr) := ⟨_, rfl⟩
        rw [← hw3.out] at hb ⊢
        clear hw3
        (try clear wr)
        go_loopw [92] (fun tk wr => ∃ k : Nat, k ≤ l1.length ∧ tk = .int .i64 k ∧ Below w2.heap.size w2 wr) (fun tk _ => l1.length - (intOf tk).toNat)
        case atStart => exact ⟨0, Nat.zero_le _, rfl, hb⟩
        case round =>
          clear hb
          obtain ⟨k, hk, rfl, hb⟩ := hrel
          by_cases hkL : k < l1.length
          · obtain ⟨x, hlx⟩ : ∃ x, l1[k]? = some x := ⟨l1[k], List.getElem?_eq_getElem hkL⟩
            have hbw := HBW.out.trans (hb.mono HBW.out.size)
            have k0 := cellBS hbw (HC.out k x hlx)
            obtain ⟨b2, o2, rfl, k10⟩ := HCC.out k (want x) (HCG.out k x hlx)
            have k1 := cellBS hb k10
            rw [HWT.out] at k1
            have hxL := HL.out x (List.mem_of_getElem? hlx)
            have hkl : (k : Int) < (l1.length : Int) := by omega
            clear k10 hbw hlx
            skip
            go_wp2_with fail
            go_roundw
            case rel => exact ⟨k + 1, by omega, by go_num, hb⟩
            case measure => simp [intOf]; omega
          · obtain rfl : k = l1.length := by omega
            go_wp2_with fail
            go_ret
            exact ⟨rfl, HBW.out.trans (hb.mono HBW.out.size)⟩
end Go.Proofs.Ytljopdkonahfhaa
