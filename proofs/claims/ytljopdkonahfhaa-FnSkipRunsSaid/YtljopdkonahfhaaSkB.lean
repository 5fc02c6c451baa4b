/- impl.SkipRuns and laws.FnSkipRuns. -/
import Derived.Test.YtljopdkonahfhaaSkA
import Derived.Test.YtljopdkonahfhaaTrodInt
namespace Go.Proofs.Ytljopdkonahfhaa
open Go.RowKit Go.Conc
set_option linter.unusedVariables false
set_option linter.unusedSimpArgs false

theorem rowAt_last (W : World) (t : TypeId) (cs : Array Value) (n : Nat) (hn : n = W.heap.size) : RowAt (W.alloc (.cells cs t)) n t cs := by subst hn; exact heap_alloc_new W _
theorem RowAt.al {W : World} {g : Nat} {t : TypeId} {cs : Array Value} (h : RowAt W g t cs) (o : Obj) : RowAt (W.alloc o) g t cs := (Below.heap_alloc W o g h.lt).trans h
theorem RowAt.ch {W : World} {g : Nat} {t : TypeId} {cs : Array Value} (h : RowAt W g t cs) (c cap : Nat) (buf : Array Value) (cl : Bool) (s r : Nat) (tm : Bool) (hne : c ≠ g) : RowAt (W.setChan c cap buf cl s r tm) g t cs := (heap_setChanOther _ _ _ _ _ _ _ _ _ hne).trans h

theorem wrapCalls (n : Nat) (W : World) : (callFunc 14 #[.iface TF (jobV n), ptr (n + 3)]).run Try.prog W = .ok (.enter 14 #[.iface TF (jobV n), ptr (n + 3)]) W := by kernel_rfl
/-- The world of impl.SkipRuns ahead of the store into 'wrapped'. -/
def skStart (w : World) (n : Nat) : World := (skWorld ((((w.alloc (.cells #[.int .i64 0] 3)).alloc (.cells #[.int .i64 0] 3)).alloc (.cells #[.nilIface] 30)).alloc (.cells #[.iface TD (.agg #[])] 43)) (.iface TF (jobV n)) (n + 4)).setChan (n + 5) 1 #[.agg #[]] false 1 0 false
theorem sk_start (w : World) (n : Nat) (hn : n = w.heap.size) : Sk w ((skStart w n).setCell ⟨n + 2, 0, none⟩ (.iface TF (wrapV n))) n 0 0 #[.agg #[]] ∧ RowAt (skStart w n) (n + 2) 30 #[.nilIface] := by
  have h0 : RowAt (w.alloc (.cells #[.int .i64 0] 3)) n _ _ := rowAt_last w _ _ n hn
  have b0 : Below n w (w.alloc (.cells #[.int .i64 0] 3)) := (Below.refl n w).alloc (by omega) _
  have s0 : (w.alloc (.cells #[.int .i64 0] 3)).heap.size = n + 1 := by simp [hn]
  unfold skStart skWorld
  generalize w.alloc (.cells #[.int .i64 0] 3) = W0 at h0 b0 s0 ⊢
  have h1 : RowAt (W0.alloc (.cells #[.int .i64 0] 3)) (n + 1) _ _ := rowAt_last W0 _ _ _ s0.symm
  have h0 := h0.al (.cells #[.int .i64 0] 3)
  have b0 : Below n w (W0.alloc (.cells #[.int .i64 0] 3)) := b0.alloc (by omega) _
  have s1 : (W0.alloc (.cells #[.int .i64 0] 3)).heap.size = n + 2 := by simp [s0]
  generalize W0.alloc (.cells #[.int .i64 0] 3) = W1 at h0 h1 b0 s1 ⊢
  have h2 : RowAt (W1.alloc (.cells #[.nilIface] 30)) (n + 2) _ _ := rowAt_last W1 _ _ _ s1.symm
  have h0 := h0.al (.cells #[.nilIface] 30)
  have h1 := h1.al (.cells #[.nilIface] 30)
  have b0 : Below n w (W1.alloc (.cells #[.nilIface] 30)) := b0.alloc (by omega) _
  have s2 : (W1.alloc (.cells #[.nilIface] 30)).heap.size = n + 3 := by simp [s1]
  generalize W1.alloc (.cells #[.nilIface] 30) = W2 at h0 h1 h2 b0 s2 ⊢
  have h3 : RowAt (W2.alloc (.cells #[.iface TD (.agg #[])] 43)) (n + 3) _ _ := rowAt_last W2 _ _ _ s2.symm
  have h0 := h0.al (.cells #[.iface TD (.agg #[])] 43)
  have h1 := h1.al (.cells #[.iface TD (.agg #[])] 43)
  have h2 := h2.al (.cells #[.iface TD (.agg #[])] 43)
  have b0 : Below n w (W2.alloc (.cells #[.iface TD (.agg #[])] 43)) := b0.alloc (by omega) _
  have s3 : (W2.alloc (.cells #[.iface TD (.agg #[])] 43)).heap.size = n + 4 := by simp [s2]
  generalize W2.alloc (.cells #[.iface TD (.agg #[])] 43) = W3 at h0 h1 h2 h3 b0 s3 ⊢
  have h4 : RowAt (W3.alloc (.cells #[.iface TF (jobV n)] 30)) (n + 4) _ _ := rowAt_last W3 _ _ _ s3.symm
  have h0 := h0.al (.cells #[.iface TF (jobV n)] 30)
  have h1 := h1.al (.cells #[.iface TF (jobV n)] 30)
  have h2 := h2.al (.cells #[.iface TF (jobV n)] 30)
  have h3 := h3.al (.cells #[.iface TF (jobV n)] 30)
  have b0 : Below n w (W3.alloc (.cells #[.iface TF (jobV n)] 30)) := b0.alloc (by omega) _
  have s4 : (W3.alloc (.cells #[.iface TF (jobV n)] 30)).heap.size = n + 5 := by simp [s3]
  generalize W3.alloc (.cells #[.iface TF (jobV n)] 30) = W4 at h0 h1 h2 h3 h4 b0 s4 ⊢
  have h0 := h0.al (.chan 1 #[] false 0 0 false)
  have h1 := h1.al (.chan 1 #[] false 0 0 false)
  have h2 := h2.al (.chan 1 #[] false 0 0 false)
  have h3 := h3.al (.chan 1 #[] false 0 0 false)
  have h4 := h4.al (.chan 1 #[] false 0 0 false)
  have b0 : Below n w (W4.alloc (.chan 1 #[] false 0 0 false)) := b0.alloc (by omega) _
  have s5 : (W4.alloc (.chan 1 #[] false 0 0 false)).heap.size = n + 6 := by simp [s4]
  generalize W4.alloc (.chan 1 #[] false 0 0 false) = W5 at h0 h1 h2 h3 h4 b0 s5 ⊢
  have h6 : RowAt (W5.alloc (.cells #[.chan (some (n + 4 + 1))] 44)) (n + 6) _ _ := rowAt_last W5 _ _ _ s5.symm
  have h0 := h0.al (.cells #[.chan (some (n + 4 + 1))] 44)
  have h1 := h1.al (.cells #[.chan (some (n + 4 + 1))] 44)
  have h2 := h2.al (.cells #[.chan (some (n + 4 + 1))] 44)
  have h3 := h3.al (.cells #[.chan (some (n + 4 + 1))] 44)
  have h4 := h4.al (.cells #[.chan (some (n + 4 + 1))] 44)
  have b0 : Below n w (W5.alloc (.cells #[.chan (some (n + 4 + 1))] 44)) := b0.alloc (by omega) _
  have s6 : n + 5 < (W5.alloc (.cells #[.chan (some (n + 4 + 1))] 44)).heap.size := by simp [s5]
  generalize W5.alloc (.cells #[.chan (some (n + 4 + 1))] 44) = W6 at h0 h1 h2 h3 h4 h6 b0 s6 ⊢
  have b1 : Below n w (W6.setChan (n + 5) 1 #[.agg #[]] false 1 0 false) := below_setChan b0 (by omega) _ _ _ _ _ _
  have h2 := h2.ch (n + 5) 1 #[.agg #[]] false 1 0 false (by omega)
  refine ⟨⟨(h0.ch _ _ _ _ _ _ _ (by omega)).setOther _ _ _ (by omega), (h1.ch _ _ _ _ _ _ _ (by omega)).setOther _ _ _ (by omega), h2.setCell 0 _, (h3.ch _ _ _ _ _ _ _ (by omega)).setOther _ _ _ (by omega), (h4.ch _ _ _ _ _ _ _ (by omega)).setOther _ _ _ (by omega), (h6.ch _ _ _ _ _ _ _ (by omega)).setOther _ _ _ (by omega), ⟨1, 0, ?_⟩, b1.setCell (p := ⟨n + 2, 0, none⟩) (by simp) _⟩, h2⟩
  rw [Below.heap_setCell _ _ _ _ (by omega : n + 5 ≠ n + 2)]
  exact heap_setChan _ _ _ _ _ _ _ _ s6
set_option maxRecDepth 100000 in
set_option maxHeartbeats 8000000 in
theorem skipRuns_any (l : List Int) (v : Value) (hl : l.length ≤ 100) (hx : Hid (∀ x ∈ l, x ≤ 100)) (w : World) (hs : Hid (SlOf RInt 1 w v l)) :
    Calls Try.prog 5 #[v] w fun e w' => e = .returned (.int .i64 l.length) ∧ Below w.heap.size w w' := by
  obtain ⟨ao, cap, rfl, hc⟩ := hs.out
  have HC := Lib.hid hc
  clear hc hs
  have hmf : ∀ (fn : Fn) (first cap : Array Value) (w : World), (Instr.makeFunc fn first cap).run Try.prog w = .ok (.func fn first cap) w := fun _ _ _ _ => rfl
  have hm := runMeth
  go_enter Try.func5, Try.ntmps5
  go_wp2_with fail
  refine (skipIf_any _ (w.heap.size + 3) ?hsz).mono ?_
  case hsz => simp
  rintro e w1 ⟨rfl, rfl⟩
  have hjc := wrapCalls w.heap.size
  go_wp2_with fail
  refine (wrapper_any _ w.heap.size (jobV w.heap.size) ?hsz).mono ?_
  case hsz => simp
  rintro e w2 ⟨rfl, hw2⟩
  obtain ⟨HA0, hN⟩ := sk_start w w.heap.size rfl
  rw [show skStart w w.heap.size = w2 from hw2.symm] at HA0 hN
  have c2 : w2.cell? ⟨w.heap.size + 1 + 1, 0, none⟩ = some .nilIface := hN.cell 0
  have f2 : w2.frozen? ⟨w.heap.size + 1 + 1, 0, none⟩ = false := hN.free 0
  have HA : Hid (Sk w (w2.setCell ⟨w.heap.size + 1 + 1, 0, none⟩ (.iface TF (wrapV w.heap.size))) w.heap.size 0 0 #[.agg #[]]) := Lib.hid HA0
  clear hw2 HA0 hN hjc
  go_wp2_with fail
  clear c2 f2
  generalize w2.setCell ⟨w.heap.size + 1 + 1, 0, none⟩ (.iface TF (wrapV w.heap.size)) = w3 at HA ⊢
  go_loopw [16] (fun v wr => ∃ k : Nat, k ≤ l.length ∧ v = .int .i64 k ∧ ∃ m, Sk w wr w.heap.size k m #[.agg #[]]) (fun v _ => l.length - (intOf v).toNat)
  case atStart => exact ⟨0, Nat.zero_le _, rfl, 0, HA.out⟩
  case round =>
    clear HA
    obtain ⟨k, hk, rfl, m, hs⟩ := hrel
    by_cases hkL : k < l.length
    · obtain ⟨x, hlx⟩ : ∃ x, l[k]? = some x := ⟨l[k], List.getElem?_eq_getElem hkL⟩
      have hxm := hx.out x (List.mem_of_getElem? hlx)
      obtain ⟨ab, aoff, us, rfl, hz, hcell, hu⟩ := HC.out k x hlx
      unfold RInt at hu
      subst hu
      have k0 := cellBS hs.bel (hcell 0 _ rfl)
      simp only [Nat.mul_one, Nat.add_zero] at k0
      have c1 : wr.cell? ⟨w.heap.size + 1, 0, none⟩ = some (.int .i64 m) := hs.moreAt.cell 0
      have f1 : wr.frozen? ⟨w.heap.size + 1, 0, none⟩ = false := hs.moreAt.free 0
      have c2 : wr.cell? ⟨w.heap.size + 1 + 1, 0, none⟩ = some (.iface TF (wrapV w.heap.size)) := hs.wrAt.cell 0
      have HS := Lib.hid (hs.setMore x)
      clear hs hcell hlx hz
      go_wp2_with fail
      refine (run_idle HS.out (by omega) (by omega) (by omega)).mono ?_
      rintro e w4 ⟨rfl, h4⟩
      have H4 := Lib.hid h4
      clear h4 HS c1 f1 c2 k0
      go_wp2_with fail
      go_roundw
      case rel => exact ⟨k + 1, by omega, by go_num, x, by simpa using H4.out⟩
      case measure => simp [intOf]; omega
    · obtain rfl : k = l.length := by omega
      have c0 : wr.cell? ⟨w.heap.size, 0, none⟩ = some (.int .i64 l.length) := hs.runsAt.cell 0
      have hb := hs.bel
      clear hs
      go_wp2_with fail
      go_ret
      exact ⟨rfl, hb⟩

set_option maxRecDepth 100000 in
set_option maxHeartbeats 8000000 in
theorem law_skipRuns (l0 : List Int) (a0 : Value) (w : World) (s0 : SlOf RInt 1 w a0 l0) (n0 : ∀ i ∈ l0, (Lit.int .i64 i).wf = true) :
    Calls Try.prog 3 #[a0] w fun e w' => e = .returned (.bool true) ∧ Below w.heap.size w w' := by
  have hs := Lib.hid s0
  clear n0 s0
  obtain ⟨ao, cap, rfl, hc⟩ := hs.out
  have HC := Lib.hid hc
  clear hc
  by_cases h1 : (2147483647 : Int) < (l0.length : Int)
  · go_enter Try.func3, Try.ntmps3
    go_wp2_with fail
    go_ret
    exact ⟨rfl, Below.refl _ _⟩
  · by_cases h2 : (100 : Int) < (l0.length : Int)
    · go_enter Try.func3, Try.ntmps3
      go_wp2_with fail
      go_ret
      exact ⟨rfl, Below.refl _ _⟩
    · have h3 : l0.length ≤ 100 := by omega
      go_enter Try.func3, Try.ntmps3
      go_wp2_with fail
      go_loopw [13] (fun v wr => ∃ k : Nat, k ≤ l0.length ∧ v = .int .i64 k ∧ wr = w ∧ Hid (∀ i x, i < k → l0[i]? = some x → x ≤ 100)) (fun v _ => l0.length - (intOf v).toNat)
      case atStart => exact ⟨0, Nat.zero_le _, rfl, rfl, Lib.hid (fun i x h => by omega)⟩
      case round =>
        obtain ⟨k, hk, rfl, rfl, hall⟩ := hrel
        by_cases hkL : k < l0.length
        · obtain ⟨x, hlx⟩ : ∃ x, l0[k]? = some x := ⟨l0[k], List.getElem?_eq_getElem hkL⟩
          obtain ⟨ab, aoff, us, rfl, hz, hcell, hu⟩ := HC.out k x hlx
          unfold RInt at hu
          subst hu
          have k0 := hcell 0 _ rfl
          simp only [Nat.mul_one, Nat.add_zero] at k0
          have Hlx := Lib.hid hlx
          clear hcell hlx hz
          by_cases hx : (100 : Int) < x
          · go_wp2_with fail
            go_ret
            exact ⟨rfl, Below.refl _ _⟩
          · go_wp2_with fail
            go_roundw
            case rel =>
              refine ⟨k + 1, by omega, by go_num, by trivial, Lib.hid (fun i y hi hy => ?_)⟩
              by_cases e : i = k
              · subst e
                have := Hlx.out
                rw [hy] at this
                have := Option.some.inj this
                omega
              · exact hall.out i y (by omega) hy
            case measure => simp [intOf]; omega
        · obtain rfl : k = l0.length := by omega
          have hx : Hid (∀ x ∈ l0, x ≤ 100) := Lib.hid (fun x hm => by
            obtain ⟨i, hi⟩ := List.getElem?_of_mem hm
            exact hall.out i x (List.getElem?_eq_some_iff.1 hi).1 hi)
          clear HC hall
          go_wp2_with fail
          refine (skipRuns_any l0 _ h3 hx _ hs).mono ?_
          rintro e w1 ⟨rfl, hb⟩
          go_wp2_with fail
          go_ret
          exact ⟨rfl, hb⟩
end Go.Proofs.Ytljopdkonahfhaa
