/- spec.Decimal: the decimal numeral. -/
import Derived.Test.YtjlbljajgkiniaaDoorPCr
import Derived.Test.YtjlbljajgkiniaaDoorConly
import Derived.Laws.BytesArg
import Derived.Deep.RegionHeld3
import Derived.WalkMore
namespace Go.Proofs.YtjlbljajgkiniaaDoor
open Go.RowKit
set_option linter.unusedVariables false
set_option linter.unusedSimpArgs false

theorem hid9 {p : Prop} (h : p) : Hid p := h
theorem dec_byte (w : World) (x : Int) : (convert 28 9 (.slice (some ⟨w.heap.size, 0, none⟩) 1 1)).run Tryd.prog (w.alloc (.cells #[.int .u8 x] 5)) = .ok (.string ⟨#[UInt8.ofNat x.toNat]⟩) (w.alloc (.cells #[.int .u8 x] 5)) :=
  run_convert_bytes_arg (P := Tryd.prog) (w.alloc (.cells #[.int .u8 x] 5)) 28 5 Tryd.underlying28 Tryd.underlying5 w.heap.size 0 1 1 [x] rfl (fun i hi => by
    have e : i = 0 := by omega
    subst e
    exact World.cell?_alloc_mark w _ _ _ 0) 9 Tryd.underlying9
theorem dec_byte_in (w w' : World) (x : Int) (g : Nat) (hg : g = w.heap.size) (hb : Below (w.alloc (.cells #[.int .u8 x] 5)).drew.heap.size (w.alloc (.cells #[.int .u8 x] 5)).drew w') :
    (convert 28 9 (.slice (some ⟨g, 0, none⟩) 1 1)).run Tryd.prog w' = .ok (.string ⟨#[UInt8.ofNat x.toNat]⟩) w' := by
  subst hg
  exact run_convert_bytes_arg (P := Tryd.prog) w' 28 5 Tryd.underlying28 Tryd.underlying5 w.heap.size 0 1 1 [x] rfl (fun i hi => by
    have e : i = 0 := by omega
    subst e
    have h0 : (w.alloc (.cells #[.int .u8 x] 5)).cell? ⟨w.heap.size, 0, none⟩ = some (.int .u8 x) := World.cell?_alloc_mark w _ _ _ 0
    refine (hb.cell ?_).trans (by simp at h0 ⊢)
    show w.heap.size < _
    simp) 9 Tryd.underlying9
theorem dec_byte_drew (w : World) (x : Int) : (convert 28 9 (.slice (some ⟨w.heap.size, 0, none⟩) 1 1)).run Tryd.prog (w.alloc (.cells #[.int .u8 x] 5)).drew = .ok (.string ⟨#[UInt8.ofNat x.toNat]⟩) (w.alloc (.cells #[.int .u8 x] 5)).drew :=
  dec_byte_in w _ x _ rfl (Below.refl _ _)
theorem decT_one (n : Nat) (hn : n < 10) : decT n = ⟨#[UInt8.ofNat (48 + n)]⟩ := by
  unfold decT
  rw [Lib.decDigits_one hn]
theorem decT_step (n : Nat) (hn : ¬ n < 10) : decT n = decT (n / 10) ++ ⟨#[UInt8.ofNat (48 + n % 10)]⟩ := by
  unfold decT
  conv => lhs; rw [Lib.decDigits, dif_neg hn]
  apply ByteArray.ext
  simp

theorem dec_digit (n : Nat) : UInt8.ofNat (IntKind.u8.wrap (48 + IntKind.u8.wrap ((n : Int).tmod 10))).toNat = 48 + UInt8.ofNat (n % 10) := by
  have e : (n : Int).tmod 10 = ((n % 10 : Nat) : Int) := by
    rw [Int.tmod_eq_emod_of_nonneg (by omega)]; omega
  rw [e]
  have h10 : n % 10 < 10 := Nat.mod_lt _ (by decide)
  generalize n % 10 = d at h10 ⊢
  have h : ∀ d : Fin 10, UInt8.ofNat (IntKind.u8.wrap (48 + IntKind.u8.wrap ((d.val : Nat) : Int))).toNat = 48 + UInt8.ofNat d.val := by decide
  exact h ⟨d, h10⟩

set_option maxRecDepth 100000 in
set_option maxHeartbeats 1000000 in
theorem decimal_any (n : Nat) : n < 18446744073709551616 → ∀ w : World,
    Calls Tryd.prog 27 #[.int .u64 n] w fun e w' => e = .returned (.string (decT n)) ∧ Below w.heap.size w w' := by
  induction n using Nat.strongRecOn with
  | ind n ih =>
  intro hn w
  by_cases h : n < 10
  · have i1 : ((n : Int) < 10) = True := eq_true (by omega)
    have kc := fun (w : World) (x : Int) => dec_byte w x
    clear ih
    go_enter Tryd.func27, Tryd.ntmps27
    go_wp2_with fail
    go_ret
    refine ⟨by rw [decT_one n h]; rfl, ?_⟩
    exact (Below.refl _ _).alloc (Nat.le_refl _) _
  · have i1 : ((n : Int) < 10) = False := eq_false (by omega)
    have kc := fun (w : World) (x : Int) => dec_byte w x
    have kc2 := fun (w : World) (x : Int) => dec_byte_drew w x
    obtain ⟨q, hq⟩ : ∃ q, q = n / 10 := ⟨_, rfl⟩
    obtain ⟨r, hr⟩ : ∃ r, r = n % 10 := ⟨_, rfl⟩
    have k1 : Hid (IntKind.u64.wrap ((n : Int) / 10) = (q : Int)) := hid9 (by (simp only [IntKind.wrap, IntKind.bits, IntKind.signed]; simp; omega))
    have hI : Hid (∀ w : World, Calls Tryd.prog 27 #[.int .u64 q] w fun e w' => e = .returned (.string (decT q)) ∧ Below w.heap.size w w') := hid9 (ih q (by omega) (by omega))
    have hs : Hid (decT n = decT q ++ ⟨#[48 + UInt8.ofNat (n % 10)]⟩) := hid9 (by rw [hq, decT_step n h]; congr 2; simp [UInt8.ofNat_add])
    have hz : (decT q).size ≤ 20 := decT_size q (by omega)
    have iz : (9223372036854775807 < (decT q).size + 1) = False := eq_false (by omega)
    have ht : Hid (UInt8.ofNat (IntKind.u8.wrap (48 + IntKind.u8.wrap ((n : Int).tmod 10))).toNat = 48 + UInt8.ofNat (n % 10)) := hid9 (dec_digit n)
    clear ih hq hr h hn
    go_enter Tryd.func27, Tryd.ntmps27
    go_wp2_with fail
    refine wp_region_held_drew (S := fun w' => Below w.heap.size w w') (by kernel_rfl) ?_ (fun hHeld => ?_)
    · (show Below _ _ _; exact (by repeat (first | (with_reducible assumption) | (with_reducible exact Below.refl _ _) | (with_reducible refine below_drewN ?_ _) | (with_reducible refine Below.drew ?_) | (with_reducible refine Below.setCell ?_ (by first | omega | (simp <;> omega)) _) | (with_reducible refine Below.alloc ?_ (by first | omega | (simp <;> omega)) _))))
    refine wpAnyH_take (i := 0) (v := ?_) rfl (by kernel_rfl) (by kernel_rfl) (by kernel_rfl) (fun _ _ _ h => h) (Or.inl ⟨by rfl, ?_⟩) (by assumption) ?_
    rotate_left
    · (intro w hSw; (try dsimp only at hSw); go_simp; (try with_reducible rfl))
    (try simp only [Act.put, List.getElem_toArray, List.getElem_cons_zero, List.getElem_cons_succ, List.setIfInBounds_toArray, List.set_cons_zero, List.set_cons_succ])
    refine wpAnyH_take (i := 1) (v := ?_) rfl (by kernel_rfl) (by kernel_rfl) (by kernel_rfl) (fun _ _ _ h => h) (Or.inl ⟨by rfl, ?_⟩) (by assumption) ?_
    rotate_left
    · (intro w hSw; (try dsimp only at hSw); go_simp; (try with_reducible rfl))
    (try simp only [Act.put, List.getElem_toArray, List.getElem_cons_zero, List.getElem_cons_succ, List.setIfInBounds_toArray, List.set_cons_zero, List.set_cons_succ])
    refine wpAnyH_take (i := 3) (v := ?_) rfl (by kernel_rfl) (by kernel_rfl) (by kernel_rfl) (fun _ _ _ h => h) (Or.inl ⟨by rfl, ?_⟩) (by assumption) ?_
    rotate_left
    · (intro w hSw; (try dsimp only at hSw); go_simp; (try with_reducible rfl))
    (try simp only [Act.put, List.getElem_toArray, List.getElem_cons_zero, List.getElem_cons_succ, List.setIfInBounds_toArray, List.set_cons_zero, List.set_cons_succ])
    refine wpAnyH_take (i := 4) (v := ?_) rfl (by kernel_rfl) (by kernel_rfl) (by kernel_rfl) (fun _ _ _ h => h) (Or.inl ⟨by rfl, ?_⟩) (by assumption) ?_
    rotate_left
    · (intro w hSw; (try dsimp only at hSw); go_simp; (try with_reducible rfl))
    (try simp only [Act.put, List.getElem_toArray, List.getElem_cons_zero, List.getElem_cons_succ, List.setIfInBounds_toArray, List.set_cons_zero, List.set_cons_succ])
    refine wpAnyH_take (i := 5) (v := ?_) rfl (by kernel_rfl) (by kernel_rfl) (by kernel_rfl) (fun _ _ _ h => h) (Or.inl ⟨by rfl, ?_⟩) (by assumption) ?_
    rotate_left
    · (intro w hSw; (try dsimp only at hSw); go_simp; (try with_reducible rfl))
    (try simp only [Act.put, List.getElem_toArray, List.getElem_cons_zero, List.getElem_cons_succ, List.setIfInBounds_toArray, List.set_cons_zero, List.set_cons_succ])
    refine wpAnyH_take (i := 6) (v := ?_) rfl (by kernel_rfl) (by kernel_rfl) (by kernel_rfl) (fun _ _ _ h => h) (Or.inl ⟨by rfl, ?_⟩) (by assumption) ?_
    rotate_left
    · (intro w hSw; (try dsimp only at hSw); go_simp; (try with_reducible rfl))
    (try simp only [Act.put, List.getElem_toArray, List.getElem_cons_zero, List.getElem_cons_succ, List.setIfInBounds_toArray, List.set_cons_zero, List.set_cons_succ])
    refine wpAnyH_ready (rs := [2, 7]) (by kernel_rfl) (by simp) ?_
    refine AllReadyH.cons rfl (fun K hK => ?_) (AllReadyH.cons rfl (fun K hK => ?_) AllReadyH.nil)
    · go_simp
      (go_at_call 27; rw [k1.out]; refine (hI.out _).mono ?_; rintro e w' ⟨rfl, hb⟩; (first | (with_reducible have kd := dec_byte_in _ _ _ w.heap.size (by simp) hb) | skip); have bn : Below w.heap.size w w' := Below.trans (by repeat (first | (with_reducible assumption) | (with_reducible exact Below.refl _ _) | (with_reducible refine below_drewN ?_ _) | (with_reducible refine Below.drew ?_) | (with_reducible refine Below.setCell ?_ (by first | omega | (simp <;> omega)) _) | (with_reducible refine Below.alloc ?_ (by first | omega | (simp <;> omega)) _))) (hb.mono (by simp)); have nn : w.heap.size ≤ w'.heap.size := bn.size)
      refine hK.out _ _ ?_ (fun hHeld => ?_)
      · (show Below _ _ _; exact (by repeat (first | (with_reducible assumption) | (with_reducible exact Below.refl _ _) | (with_reducible refine below_drewN ?_ _) | (with_reducible refine Below.drew ?_) | (with_reducible refine Below.setCell ?_ (by first | omega | (simp <;> omega)) _) | (with_reducible refine Below.alloc ?_ (by first | omega | (simp <;> omega)) _))))
      clear hK K
      (try simp only [Act.put, List.getElem_toArray, List.getElem_cons_zero, List.getElem_cons_succ, List.setIfInBounds_toArray, List.set_cons_zero, List.set_cons_succ])
      refine wpAnyH_ready (rs := [7]) (by kernel_rfl) (by simp) ?_
      refine AllReadyH.cons rfl (fun K hK => ?_) AllReadyH.nil
      go_simp
      refine hK.out _ _ ?_ (fun hHeld => ?_)
      · (show Below _ _ _; exact (by repeat (first | (with_reducible assumption) | (with_reducible exact Below.refl _ _) | (with_reducible refine below_drewN ?_ _) | (with_reducible refine Below.drew ?_) | (with_reducible refine Below.setCell ?_ (by first | omega | (simp <;> omega)) _) | (with_reducible refine Below.alloc ?_ (by first | omega | (simp <;> omega)) _))))
      clear hK K
      (try simp only [Act.put, List.getElem_toArray, List.getElem_cons_zero, List.getElem_cons_succ, List.setIfInBounds_toArray, List.set_cons_zero, List.set_cons_succ])
      refine wpAnyH_ready (rs := [8]) (by kernel_rfl) (by simp) ?_
      refine AllReadyH.cons rfl (fun K hK => ?_) AllReadyH.nil
      go_simp
      refine hK.out _ _ ?_ (fun hHeld => ?_)
      · (show Below _ _ _; exact (by repeat (first | (with_reducible assumption) | (with_reducible exact Below.refl _ _) | (with_reducible refine below_drewN ?_ _) | (with_reducible refine Below.drew ?_) | (with_reducible refine Below.setCell ?_ (by first | omega | (simp <;> omega)) _) | (with_reducible refine Below.alloc ?_ (by first | omega | (simp <;> omega)) _))))
      clear hK K
      (try simp only [Act.put, List.getElem_toArray, List.getElem_cons_zero, List.getElem_cons_succ, List.setIfInBounds_toArray, List.set_cons_zero, List.set_cons_succ])
      refine wpAnyH_ready (rs := [9]) (by kernel_rfl) (by simp) ?_
      refine AllReadyH.cons rfl (fun K hK => ?_) AllReadyH.nil
      go_simp
      refine hK.out _ _ ?_ (fun hHeld => ?_)
      · (show Below _ _ _; exact (by repeat (first | (with_reducible assumption) | (with_reducible exact Below.refl _ _) | (with_reducible refine below_drewN ?_ _) | (with_reducible refine Below.drew ?_) | (with_reducible refine Below.setCell ?_ (by first | omega | (simp <;> omega)) _) | (with_reducible refine Below.alloc ?_ (by first | omega | (simp <;> omega)) _))))
      clear hK K
      (try simp only [Act.put, List.getElem_toArray, List.getElem_cons_zero, List.getElem_cons_succ, List.setIfInBounds_toArray, List.set_cons_zero, List.set_cons_succ])
      refine wpAnyH_ready (rs := [10]) (by kernel_rfl) (by simp) ?_
      refine AllReadyH.cons rfl (fun K hK => ?_) AllReadyH.nil
      go_simp
      refine hK.out _ _ ?_ (fun hHeld => ?_)
      · (show Below _ _ _; exact (by repeat (first | (with_reducible assumption) | (with_reducible exact Below.refl _ _) | (with_reducible refine below_drewN ?_ _) | (with_reducible refine Below.drew ?_) | (with_reducible refine Below.setCell ?_ (by first | omega | (simp <;> omega)) _) | (with_reducible refine Below.alloc ?_ (by first | omega | (simp <;> omega)) _))))
      clear hK K
      (try simp only [Act.put, List.getElem_toArray, List.getElem_cons_zero, List.getElem_cons_succ, List.setIfInBounds_toArray, List.set_cons_zero, List.set_cons_succ])
      refine wpAnyH_done (by kernel_rfl) ?_ _
      go_wp2_with fail
      go_ret
      exact ⟨(by rw [hs.out, ← ht.out]; rfl), (show Below _ _ _ from (by repeat (first | (with_reducible assumption) | (with_reducible exact Below.refl _ _) | (with_reducible refine below_drewN ?_ _) | (with_reducible refine Below.drew ?_) | (with_reducible refine Below.setCell ?_ (by first | omega | (simp <;> omega)) _) | (with_reducible refine Below.alloc ?_ (by first | omega | (simp <;> omega)) _))))⟩
    · go_simp
      refine hK.out _ _ ?_ (fun hHeld => ?_)
      · (show Below _ _ _; exact (by repeat (first | (with_reducible assumption) | (with_reducible exact Below.refl _ _) | (with_reducible refine below_drewN ?_ _) | (with_reducible refine Below.drew ?_) | (with_reducible refine Below.setCell ?_ (by first | omega | (simp <;> omega)) _) | (with_reducible refine Below.alloc ?_ (by first | omega | (simp <;> omega)) _))))
      clear hK K
      (try simp only [Act.put, List.getElem_toArray, List.getElem_cons_zero, List.getElem_cons_succ, List.setIfInBounds_toArray, List.set_cons_zero, List.set_cons_succ])
      refine wpAnyH_ready (rs := [2, 8]) (by kernel_rfl) (by simp) ?_
      refine AllReadyH.cons rfl (fun K hK => ?_) (AllReadyH.cons rfl (fun K hK => ?_) AllReadyH.nil)
      · go_simp
        (go_at_call 27; rw [k1.out]; refine (hI.out _).mono ?_; rintro e w' ⟨rfl, hb⟩; (first | (with_reducible have kd := dec_byte_in _ _ _ w.heap.size (by simp) hb) | skip); have bn : Below w.heap.size w w' := Below.trans (by repeat (first | (with_reducible assumption) | (with_reducible exact Below.refl _ _) | (with_reducible refine below_drewN ?_ _) | (with_reducible refine Below.drew ?_) | (with_reducible refine Below.setCell ?_ (by first | omega | (simp <;> omega)) _) | (with_reducible refine Below.alloc ?_ (by first | omega | (simp <;> omega)) _))) (hb.mono (by simp)); have nn : w.heap.size ≤ w'.heap.size := bn.size)
        refine hK.out _ _ ?_ (fun hHeld => ?_)
        · (show Below _ _ _; exact (by repeat (first | (with_reducible assumption) | (with_reducible exact Below.refl _ _) | (with_reducible refine below_drewN ?_ _) | (with_reducible refine Below.drew ?_) | (with_reducible refine Below.setCell ?_ (by first | omega | (simp <;> omega)) _) | (with_reducible refine Below.alloc ?_ (by first | omega | (simp <;> omega)) _))))
        clear hK K
        (try simp only [Act.put, List.getElem_toArray, List.getElem_cons_zero, List.getElem_cons_succ, List.setIfInBounds_toArray, List.set_cons_zero, List.set_cons_succ])
        refine wpAnyH_ready (rs := [8]) (by kernel_rfl) (by simp) ?_
        refine AllReadyH.cons rfl (fun K hK => ?_) AllReadyH.nil
        go_simp
        refine hK.out _ _ ?_ (fun hHeld => ?_)
        · (show Below _ _ _; exact (by repeat (first | (with_reducible assumption) | (with_reducible exact Below.refl _ _) | (with_reducible refine below_drewN ?_ _) | (with_reducible refine Below.drew ?_) | (with_reducible refine Below.setCell ?_ (by first | omega | (simp <;> omega)) _) | (with_reducible refine Below.alloc ?_ (by first | omega | (simp <;> omega)) _))))
        clear hK K
        (try simp only [Act.put, List.getElem_toArray, List.getElem_cons_zero, List.getElem_cons_succ, List.setIfInBounds_toArray, List.set_cons_zero, List.set_cons_succ])
        refine wpAnyH_ready (rs := [9]) (by kernel_rfl) (by simp) ?_
        refine AllReadyH.cons rfl (fun K hK => ?_) AllReadyH.nil
        go_simp
        refine hK.out _ _ ?_ (fun hHeld => ?_)
        · (show Below _ _ _; exact (by repeat (first | (with_reducible assumption) | (with_reducible exact Below.refl _ _) | (with_reducible refine below_drewN ?_ _) | (with_reducible refine Below.drew ?_) | (with_reducible refine Below.setCell ?_ (by first | omega | (simp <;> omega)) _) | (with_reducible refine Below.alloc ?_ (by first | omega | (simp <;> omega)) _))))
        clear hK K
        (try simp only [Act.put, List.getElem_toArray, List.getElem_cons_zero, List.getElem_cons_succ, List.setIfInBounds_toArray, List.set_cons_zero, List.set_cons_succ])
        refine wpAnyH_ready (rs := [10]) (by kernel_rfl) (by simp) ?_
        refine AllReadyH.cons rfl (fun K hK => ?_) AllReadyH.nil
        go_simp
        refine hK.out _ _ ?_ (fun hHeld => ?_)
        · (show Below _ _ _; exact (by repeat (first | (with_reducible assumption) | (with_reducible exact Below.refl _ _) | (with_reducible refine below_drewN ?_ _) | (with_reducible refine Below.drew ?_) | (with_reducible refine Below.setCell ?_ (by first | omega | (simp <;> omega)) _) | (with_reducible refine Below.alloc ?_ (by first | omega | (simp <;> omega)) _))))
        clear hK K
        (try simp only [Act.put, List.getElem_toArray, List.getElem_cons_zero, List.getElem_cons_succ, List.setIfInBounds_toArray, List.set_cons_zero, List.set_cons_succ])
        refine wpAnyH_done (by kernel_rfl) ?_ _
        go_wp2_with fail
        go_ret
        exact ⟨(by rw [hs.out, ← ht.out]; rfl), (show Below _ _ _ from (by repeat (first | (with_reducible assumption) | (with_reducible exact Below.refl _ _) | (with_reducible refine below_drewN ?_ _) | (with_reducible refine Below.drew ?_) | (with_reducible refine Below.setCell ?_ (by first | omega | (simp <;> omega)) _) | (with_reducible refine Below.alloc ?_ (by first | omega | (simp <;> omega)) _))))⟩
      · go_simp
        refine hK.out _ _ ?_ (fun hHeld => ?_)
        · (show Below _ _ _; exact (by repeat (first | (with_reducible assumption) | (with_reducible exact Below.refl _ _) | (with_reducible refine below_drewN ?_ _) | (with_reducible refine Below.drew ?_) | (with_reducible refine Below.setCell ?_ (by first | omega | (simp <;> omega)) _) | (with_reducible refine Below.alloc ?_ (by first | omega | (simp <;> omega)) _))))
        clear hK K
        (try simp only [Act.put, List.getElem_toArray, List.getElem_cons_zero, List.getElem_cons_succ, List.setIfInBounds_toArray, List.set_cons_zero, List.set_cons_succ])
        refine wpAnyH_ready (rs := [2]) (by kernel_rfl) (by simp) ?_
        refine AllReadyH.cons rfl (fun K hK => ?_) AllReadyH.nil
        go_simp
        (go_at_call 27; rw [k1.out]; refine (hI.out _).mono ?_; rintro e w' ⟨rfl, hb⟩; (first | (with_reducible have kd := dec_byte_in _ _ _ w.heap.size (by simp) hb) | skip); have bn : Below w.heap.size w w' := Below.trans (by repeat (first | (with_reducible assumption) | (with_reducible exact Below.refl _ _) | (with_reducible refine below_drewN ?_ _) | (with_reducible refine Below.drew ?_) | (with_reducible refine Below.setCell ?_ (by first | omega | (simp <;> omega)) _) | (with_reducible refine Below.alloc ?_ (by first | omega | (simp <;> omega)) _))) (hb.mono (by simp)); have nn : w.heap.size ≤ w'.heap.size := bn.size)
        refine hK.out _ _ ?_ (fun hHeld => ?_)
        · (show Below _ _ _; exact (by repeat (first | (with_reducible assumption) | (with_reducible exact Below.refl _ _) | (with_reducible refine below_drewN ?_ _) | (with_reducible refine Below.drew ?_) | (with_reducible refine Below.setCell ?_ (by first | omega | (simp <;> omega)) _) | (with_reducible refine Below.alloc ?_ (by first | omega | (simp <;> omega)) _))))
        clear hK K
        (try simp only [Act.put, List.getElem_toArray, List.getElem_cons_zero, List.getElem_cons_succ, List.setIfInBounds_toArray, List.set_cons_zero, List.set_cons_succ])
        refine wpAnyH_ready (rs := [9]) (by kernel_rfl) (by simp) ?_
        refine AllReadyH.cons rfl (fun K hK => ?_) AllReadyH.nil
        go_simp
        refine hK.out _ _ ?_ (fun hHeld => ?_)
        · (show Below _ _ _; exact (by repeat (first | (with_reducible assumption) | (with_reducible exact Below.refl _ _) | (with_reducible refine below_drewN ?_ _) | (with_reducible refine Below.drew ?_) | (with_reducible refine Below.setCell ?_ (by first | omega | (simp <;> omega)) _) | (with_reducible refine Below.alloc ?_ (by first | omega | (simp <;> omega)) _))))
        clear hK K
        (try simp only [Act.put, List.getElem_toArray, List.getElem_cons_zero, List.getElem_cons_succ, List.setIfInBounds_toArray, List.set_cons_zero, List.set_cons_succ])
        refine wpAnyH_ready (rs := [10]) (by kernel_rfl) (by simp) ?_
        refine AllReadyH.cons rfl (fun K hK => ?_) AllReadyH.nil
        go_simp
        refine hK.out _ _ ?_ (fun hHeld => ?_)
        · (show Below _ _ _; exact (by repeat (first | (with_reducible assumption) | (with_reducible exact Below.refl _ _) | (with_reducible refine below_drewN ?_ _) | (with_reducible refine Below.drew ?_) | (with_reducible refine Below.setCell ?_ (by first | omega | (simp <;> omega)) _) | (with_reducible refine Below.alloc ?_ (by first | omega | (simp <;> omega)) _))))
        clear hK K
        (try simp only [Act.put, List.getElem_toArray, List.getElem_cons_zero, List.getElem_cons_succ, List.setIfInBounds_toArray, List.set_cons_zero, List.set_cons_succ])
        refine wpAnyH_done (by kernel_rfl) ?_ _
        go_wp2_with fail
        go_ret
        exact ⟨(by rw [hs.out, ← ht.out]; rfl), (show Below _ _ _ from (by repeat (first | (with_reducible assumption) | (with_reducible exact Below.refl _ _) | (with_reducible refine below_drewN ?_ _) | (with_reducible refine Below.drew ?_) | (with_reducible refine Below.setCell ?_ (by first | omega | (simp <;> omega)) _) | (with_reducible refine Below.alloc ?_ (by first | omega | (simp <;> omega)) _))))⟩
end Go.Proofs.YtjlbljajgkiniaaDoor
