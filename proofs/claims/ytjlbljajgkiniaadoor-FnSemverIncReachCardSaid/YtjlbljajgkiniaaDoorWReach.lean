/- laws.FnSemverIncReach returns true for every input. -/
import Derived.Test.YtjlbljajgkiniaaDoorIrB
import Derived.Test.YtjlbljajgkiniaaDoorIrP
import Derived.Test.YtjlbljajgkiniaaDoorSvGood
import Derived.Test.YtjlbljajgkiniaaDoorSpVerText
namespace Go.Proofs.YtjlbljajgkiniaaDoor
open Go.RowKit
set_option linter.unusedVariables false
set_option linter.unusedSimpArgs false

theorem Tryd.infoU8 : (Tryd.prog.info? 5).map (fun i => (i.zero, i.size, i.bytes)) = some (some (.int .u8 0), 1, 1) := by kernel_rfl

def Both (w : World) : Prop := Errs w ∧ Tab10 w

/-- What a region leaves: one frame, and what is known of the world. -/
def RegQ (A : Act) (F : World → Prop) : Exit → Act → World → Prop := fun e a w => e = .normal ∧ a = A ∧ F w
theorem reg_frame {P : Program} {c : Code} {Q' : Exit → Act → World → Prop} {a : Act} {w : World} (i j k l : Tmp) (v1 v2 v3 v4 : Value) (F : World → Prop)
    (h1 : c.wp P (RegQ ((((a.put (some i) v1).put (some j) v2).put (some k) v3).put (some l) v4) F) a w) (h2 : ∀ w', F w' → Q' .normal ((((a.put (some i) v1).put (some j) v2).put (some k) v3).put (some l) v4) w') : c.wp P Q' a w :=
  Code.wp_mono (fun e a' w' ⟨he, ha, hf⟩ => by subst he; subst ha; exact h2 w' hf) h1
theorem undrew {w w' : World} (h : Below w.drew.heap.size w.drew w') : Below w.heap.size w w' := ⟨h.os, h.tape, h.output, h.size, h.block⟩

theorem bare_ir (a b c : Int) (p m : ByteArray) (w : World) :
    Calls Tryd.prog 6 #[.agg (plainC a b c p m)] w fun e w' => e = .returned (.agg (plainC a b c ⟨#[]⟩ ⟨#[]⟩)) ∧ Below w.heap.size w w' := by
  go_enter Tryd.func6, Tryd.ntmps6
  go_wp2_with fail
  refine bodyPost_ret (v := .agg (plainC a b c ⟨#[]⟩ ⟨#[]⟩)) (by simp [results, Tryd.results6, go_sem]) rfl ⟨rfl, ?_⟩
  exact (by repeat (first | (with_reducible assumption) | (with_reducible exact Below.refl _ _) | (with_reducible refine below_drewN ?_ _) | (with_reducible refine Below.drew ?_) | (with_reducible refine Below.setCell ?_ (by first | omega | (simp <;> omega)) _) | (with_reducible refine Below.alloc ?_ (by first | omega | (simp <;> omega)) _)))

/-- What is known of a world in the loop: the steps' slice, the two arrays, the two boxes. -/
def RW (w0 : World) (a b c x y z : Int) (G : Nat) (W : World) (sv : Value) (S : List Int) (fa fb fc : Int) : Prop :=
  OwnOf RU8 1 (G + 2) 5 W sv S ∧ ArrAt W G #[.int .u64 fa, .int .u64 fb, .int .u64 fc] ∧ ArrAt W (G + 1) #[.int .u64 x, .int .u64 y, .int .u64 z] ∧ PlainAt W w0.heap.size (plainC a b c ⟨#[]⟩ ⟨#[]⟩) ∧ PlainAt W (w0.heap.size + 1) (plainC x y z ⟨#[]⟩ ⟨#[]⟩) ∧ Below w0.heap.size w0 W
theorem RW.below {w0 : World} {a b c x y z : Int} {G : Nat} {W W' : World} {sv : Value} {S : List Int} {fa fb fc : Int} (h : RW w0 a b c x y z G W sv S fa fb fc) (hb : Below W.heap.size W W') : RW w0 a b c x y z G W' sv S fa fb fc :=
  ⟨h.1.below RU8.mono hb, (hb.block _ h.2.1.lt).trans h.2.1, (hb.block _ h.2.2.1.lt).trans h.2.2.1, h.2.2.2.1.below8 hb, h.2.2.2.2.1.below8 hb, h.2.2.2.2.2.trans (hb.mono h.2.2.2.2.2.size)⟩

theorem segI_self7 (a : Int) : segI a a = 0 := by unfold segI; simp
theorem equal_self (x y z : Int) (w : World) (he : Hid (Errs w)) :
    Calls Tryd.prog 9 #[.agg (plainC x y z ⟨#[]⟩ ⟨#[]⟩), .agg (plainC x y z ⟨#[]⟩ ⟨#[]⟩)] w (fun e w' => e = .returned (.bool true) ∧ Below w.heap.size w w') :=
  (versionEqual_any x y z x y z ⟨#[]⟩ ⟨#[]⟩ ⟨#[]⟩ ⟨#[]⟩ w (by decide) (by decide) he).mono fun e w' ⟨h, hb⟩ => ⟨by rw [h]; unfold cmpI preC; rw [segI_self7, segI_self7, segI_self7, show (⟨#[]⟩ : ByteArray).toList.isEmpty = true from by first | rfl | decide | simp]; rfl, hb⟩
theorem RW.push {w0 : World} {a b c x y z : Int} {G : Nat} {W W2 : World} {sv v' : Value} {S : List Int} {fa fb fc : Int} (h : RW w0 a b c x y z G W sv S fa fb fc) (o : Obj) (s : Int) {n : Nat} {cs : List (List Value)} (hn : S.length = n) (hcl : cs.length = n) (hcz : ∀ us ∈ cs, us.length = 1)
    (hown : (W.alloc o).ownsRow (G + 2) 5 1 sv n cs.flatten) (hR : ∀ (i : Nat) (x : Int) (us : List Value), S[i]? = some x → cs[i]? = some us → RU8 (W.alloc o) us x) (hg : (W.alloc o).grownBy W2 sv.ownBlock)
    (hown3 : W2.ownsRow (G + 2) 5 1 v' (n + 1) (cs.flatten ++ [.int .u8 s])) (hG : w0.heap.size + 1 < G) : RW w0 a b c x y z G W2 v' (S ++ [s]) fa fb fc := by
  have h1 := h.below ((Below.refl W.heap.size W).alloc (Nat.le_refl _) o)
  have lt : ∀ k, sv.ownBlock = some k → G + 2 ≤ k := fun k hk => (hown.lt k hk).1
  refine ⟨OwnOf.push (RU8.stab (e := 5)) hn hcl hcz hown hR hg hown3 rfl (show RU8 _ _ s from rfl), ?_, ?_, ?_, ?_, ?_⟩
  · exact (hg.block _ h1.2.1.lt (fun e => by have := lt _ e.symm; omega)).trans h1.2.1
  · exact (hg.block _ h1.2.2.1.lt (fun e => by have := lt _ e.symm; omega)).trans h1.2.2.1
  · exact (hg.block _ h1.2.2.2.1.lt (fun e => by have := lt _ e.symm; omega)).trans h1.2.2.2.1
  · exact (hg.block _ h1.2.2.2.2.1.lt (fun e => by have := lt _ e.symm; omega)).trans h1.2.2.2.2.1
  · exact Below.grown h1.2.2.2.2.2 hg h1.2.2.2.2.2.size (fun g hg => by have := lt g hg; omega)
theorem RW.other {w0 : World} {a b c x y z : Int} {G : Nat} {W : World} {sv : Value} {S : List Int} {fa fb fc : Int} (h : RW w0 a b c x y z G W sv S fa fb fc) (k : Nat) (hG : w0.heap.size + 1 < G) {fa2 fb2 fc2 : Int}
    (hA : ArrAt (W.setCell ⟨G, k, none⟩ (.int .u64 0)) G #[.int .u64 fa2, .int .u64 fb2, .int .u64 fc2]) : RW w0 a b c x y z G (W.setCell ⟨G, k, none⟩ (.int .u64 0)) sv S fa2 fb2 fc2 := by
  obtain ⟨h1, h2, h3, h4, h5, h6⟩ := h
  refine ⟨?_, hA, ?_, ?_, ?_, h6.setCell (p := ⟨G, k, none⟩) (show w0.heap.size ≤ G by omega) _⟩
  · have lt := h1.lt
    obtain ⟨cs, hl, hz, hown, hr⟩ := h1
    refine ⟨cs, hl, hz, ⟨hown.1, ?_⟩, fun i x us hi hu => hr i x us hi hu⟩
    rcases hown.2 with h0 | ⟨k', cap, cur, rfl, hb, hk, hn⟩
    · exact .inl h0
    · have hne : k' ≠ G := by have := lt k' rfl; omega
      refine .inr ⟨k', cap, cur, rfl, hb, ?_, hn⟩
      rw [Below.heap_setCell _ _ _ _ hne]
      exact hk
  · unfold ArrAt; rw [Below.heap_setCell _ _ _ _ (by show G + 1 ≠ G; omega)]; exact h3
  · unfold PlainAt; rw [Below.heap_setCell _ _ _ _ (by show _ ≠ G; omega)]; exact h4
  · unfold PlainAt; rw [Below.heap_setCell _ _ _ _ (by show _ ≠ G; omega)]; exact h5
theorem RW.zero1 {w0 : World} {a b c x y z : Int} {G : Nat} {W : World} {sv : Value} {S : List Int} {fa fb fc : Int} (h : RW w0 a b c x y z G W sv S fa fb fc) (hG : w0.heap.size + 1 < G) : RW w0 a b c x y z G (W.setCell ⟨G, 1, none⟩ (.int .u64 0)) sv S fa 0 fc :=
  h.other 1 hG (heap_setCell_same _ G 1 _ _ _ h.2.1)
theorem RW.zero2 {w0 : World} {a b c x y z : Int} {G : Nat} {W : World} {sv : Value} {S : List Int} {fa fb fc : Int} (h : RW w0 a b c x y z G W sv S fa fb fc) (hG : w0.heap.size + 1 < G) : RW w0 a b c x y z G (W.setCell ⟨G, 2, none⟩ (.int .u64 0)) sv S fa fb 0 :=
  h.other 2 hG (heap_setCell_same _ G 2 _ _ _ h.2.1)

theorem plain_other9 {w : World} {g h : Nat} {cs : Array Value} (hne : g ≠ h) (a b c d e : Value) (k : PlainAt w g cs) :
    PlainAt (((((w.setCell ⟨h, 0, none⟩ a).setCell ⟨h, 1, none⟩ b).setCell ⟨h, 2, none⟩ c).setCell ⟨h, 3, none⟩ d).setCell ⟨h, 4, none⟩ e) g cs := by
  unfold PlainAt
  rw [Below.heap_setCell _ _ _ _ hne, Below.heap_setCell _ _ _ _ hne, Below.heap_setCell _ _ _ _ hne, Below.heap_setCell _ _ _ _ hne, Below.heap_setCell _ _ _ _ hne]
  exact k

set_option maxRecDepth 100000 in
set_option maxHeartbeats 16000000 in
theorem reach_walk (a b c x y z : Int) (p m q n : ByteArray) (hv : Hid (In9 (a, b, c))) (hu : Hid (In9 (x, y, z))) (w : World) (he : Hid (Both w)) :
    Calls Tryd.prog 3 #[.agg (plainC a b c p m), .agg (plainC x y z q n)] w fun e w' => e = .returned (.bool true) ∧ Below w.heap.size w w' := by
  obtain ⟨fb, hfb⟩ : ∃ fb, Hid ((decide (p.size ≤ 2147483647) && decide (m.size ≤ 2147483647)) = fb) := ⟨_, rfl⟩
  obtain ⟨gb, hgb⟩ : ∃ gb, Hid ((decide (q.size ≤ 2147483647) && decide (n.size ≤ 2147483647)) = gb) := ⟨_, rfl⟩
  go_enter Tryd.func3, Tryd.ntmps3
  go_wp2_with fail
  refine (fits14_any a b c p m fb hfb.out _).mono ?_
  rintro e wa ⟨rfl, hwa⟩
  have hPv : Hid (PlainAt wa w.heap.size (plainC a b c p m)) := by rw [hwa]; exact ((plainAt_last w _ _ rfl).alloc _).alloc _
  have hPw : Hid (PlainAt wa (w.heap.size + 1) (plainC x y z q n)) := by rw [hwa]; exact (plainAt_last _ _ _ (by simp)).alloc _
  have ba : Below w.heap.size w wa := by rw [hwa]; exact (((Below.refl _ _).alloc (Nat.le_refl _) _).alloc (by simp) _).alloc (by simp; omega) _
  clear hwa
  cases fb with
  | false =>
    go_wp2_with fail
    go_ret
    exact ⟨rfl, ba⟩
  | true =>
    have p0 := hPw.out.cell 0
    have p1 := hPw.out.cell 1
    have p2 := hPw.out.cell 2
    have p3 := hPw.out.cell 3
    have p4 := hPw.out.cell 4
    go_wp2_with fail
    refine (fits14_any x y z q n gb hgb.out _).mono ?_
    rintro e wb ⟨rfl, hwb⟩
    have hb1 : Below wa.heap.size wa wb := by rw [hwb]; exact (Below.refl _ _).alloc (Nat.le_refl _) _
    have hPv2 : Hid (PlainAt wb w.heap.size (plainC a b c p m)) := hPv.out.below8 hb1
    have hPw2 : Hid (PlainAt wb (w.heap.size + 1) (plainC x y z q n)) := hPw.out.below8 hb1
    have bb := ba.trans (hb1.mono ba.size)
    clear hwb hb1 p0 p1 p2 p3 p4 hPv hPw ba
    cases gb with
    | false =>
      go_wp2_with fail
      go_ret
      exact ⟨rfl, bb⟩
    | true =>
      go_wp2_with fail
      refine reg_frame 21 22 23 24 (.agg (plainC a b c p m)) (.agg (plainC a b c ⟨#[]⟩ ⟨#[]⟩)) (.agg (plainC x y z q n)) (.agg (plainC x y z ⟨#[]⟩ ⟨#[]⟩)) (fun w' => PlainAt w' w.heap.size (plainC a b c ⟨#[]⟩ ⟨#[]⟩) ∧ PlainAt w' (w.heap.size + 1) (plainC x y z ⟨#[]⟩ ⟨#[]⟩) ∧ Below w.heap.size w w') ?reg ?hq
      case reg =>
        have v0 := hPv2.out.cell 0
        have v1 := hPv2.out.cell 1
        have v2 := hPv2.out.cell 2
        have v3 := hPv2.out.cell 3
        have v4 := hPv2.out.cell 4
        have u0 := hPw2.out.cell 0
        have u1 := hPw2.out.cell 1
        have u2 := hPw2.out.cell 2
        have u3 := hPw2.out.cell 3
        have u4 := hPw2.out.cell 4
        refine wp_region_held_drew (S := fun w' => Hid (Below w.heap.size w w')) (by kernel_rfl) ?_ (fun hHeld => ?_)
        · exact bb.drew
        refine wpAnyH_ready (rs := [0, 2]) (by kernel_rfl) (by simp) ?_
        refine (AllReadyH.cons rfl (fun K hK => ?_) (AllReadyH.cons rfl (fun K hK => ?_) AllReadyH.nil))
        · go_simp
          refine hK.out _ _ (show Hid (Below w.heap.size w _) from bb.drew) (fun hH2 => ?_)
          clear hK K hHeld
          have hHeld := hH2
          clear hH2
          (try simp only [Act.put, List.getElem_toArray, List.getElem_cons_zero, List.getElem_cons_succ, List.setIfInBounds_toArray, List.set_cons_zero, List.set_cons_succ])
          refine wpAnyH_ready (rs := [1, 2]) (by kernel_rfl) (by simp) ?_
          refine (AllReadyH.cons rfl (fun K hK => ?_) (AllReadyH.cons rfl (fun K hK => ?_) AllReadyH.nil))
          · go_simp
            go_at_call 6
            refine (bare_ir a b c p m _).mono ?_
            rintro e w1 ⟨rfl, hb1⟩
            have b_w1 : Below w.heap.size w w1 := bb.trans ((show Below wb.heap.size wb w1 from undrew hb1).mono bb.size)
            have V_w1 := Lib.hid (PlainAt.below8 hPv2.out (show Below wb.heap.size wb w1 from undrew hb1))
            have U_w1 := Lib.hid (PlainAt.below8 hPw2.out (show Below wb.heap.size wb w1 from undrew hb1))
            refine hK.out _ _ (Lib.hid b_w1) (fun hH2 => ?_)
            clear hK K hHeld hb1
            have hHeld := hH2
            clear hH2
            (try simp only [Act.put, List.getElem_toArray, List.getElem_cons_zero, List.getElem_cons_succ, List.setIfInBounds_toArray, List.set_cons_zero, List.set_cons_succ])
            clear v0 v1 v2 v3 v4 u0 u1 u2 u3 u4
            have v0 := V_w1.out.cell 0
            have u0 := U_w1.out.cell 0
            have v1 := V_w1.out.cell 1
            have u1 := U_w1.out.cell 1
            have v2 := V_w1.out.cell 2
            have u2 := U_w1.out.cell 2
            have v3 := V_w1.out.cell 3
            have u3 := U_w1.out.cell 3
            have v4 := V_w1.out.cell 4
            have u4 := U_w1.out.cell 4
            refine wpAnyH_ready (rs := [2]) (by kernel_rfl) (by simp) ?_
            refine (AllReadyH.cons rfl (fun K hK => ?_) AllReadyH.nil)
            go_simp
            refine hK.out _ _ (show Hid (Below w.heap.size w _) from b_w1) (fun hH2 => ?_)
            clear hK K hHeld
            have hHeld := hH2
            clear hH2
            (try simp only [Act.put, List.getElem_toArray, List.getElem_cons_zero, List.getElem_cons_succ, List.setIfInBounds_toArray, List.set_cons_zero, List.set_cons_succ])
            refine wpAnyH_ready (rs := [3]) (by kernel_rfl) (by simp) ?_
            refine (AllReadyH.cons rfl (fun K hK => ?_) AllReadyH.nil)
            go_simp
            go_at_call 6
            refine (bare_ir x y z q n _).mono ?_
            rintro e w2 ⟨rfl, hb1⟩
            have b_w2 : Below w.heap.size w w2 := b_w1.trans ((show Below w1.heap.size w1 w2 from hb1).mono b_w1.size)
            have V_w2 := Lib.hid (PlainAt.below8 V_w1.out (show Below w1.heap.size w1 w2 from hb1))
            have U_w2 := Lib.hid (PlainAt.below8 U_w1.out (show Below w1.heap.size w1 w2 from hb1))
            refine hK.out _ _ (Lib.hid b_w2) (fun hH2 => ?_)
            clear hK K hHeld hb1
            have hHeld := hH2
            clear hH2
            (try simp only [Act.put, List.getElem_toArray, List.getElem_cons_zero, List.getElem_cons_succ, List.setIfInBounds_toArray, List.set_cons_zero, List.set_cons_succ])
            clear v0 v1 v2 v3 v4 u0 u1 u2 u3 u4
            have v0 := V_w2.out.cell 0
            have u0 := U_w2.out.cell 0
            have v1 := V_w2.out.cell 1
            have u1 := U_w2.out.cell 1
            have v2 := V_w2.out.cell 2
            have u2 := U_w2.out.cell 2
            have v3 := V_w2.out.cell 3
            have u3 := U_w2.out.cell 3
            have v4 := V_w2.out.cell 4
            have u4 := U_w2.out.cell 4
            have fv0 : w2.frozen? ⟨w.heap.size, 0, none⟩ = false := by simp [World.frozen?, show w2.heap[w.heap.size]? = _ from V_w2.out]
            have fu0 : w2.frozen? ⟨w.heap.size + 1, 0, none⟩ = false := by simp [World.frozen?, show w2.heap[w.heap.size + 1]? = _ from U_w2.out]
            have fv1 : w2.frozen? ⟨w.heap.size, 1, none⟩ = false := by simp [World.frozen?, show w2.heap[w.heap.size]? = _ from V_w2.out]
            have fu1 : w2.frozen? ⟨w.heap.size + 1, 1, none⟩ = false := by simp [World.frozen?, show w2.heap[w.heap.size + 1]? = _ from U_w2.out]
            have fv2 : w2.frozen? ⟨w.heap.size, 2, none⟩ = false := by simp [World.frozen?, show w2.heap[w.heap.size]? = _ from V_w2.out]
            have fu2 : w2.frozen? ⟨w.heap.size + 1, 2, none⟩ = false := by simp [World.frozen?, show w2.heap[w.heap.size + 1]? = _ from U_w2.out]
            have fv3 : w2.frozen? ⟨w.heap.size, 3, none⟩ = false := by simp [World.frozen?, show w2.heap[w.heap.size]? = _ from V_w2.out]
            have fu3 : w2.frozen? ⟨w.heap.size + 1, 3, none⟩ = false := by simp [World.frozen?, show w2.heap[w.heap.size + 1]? = _ from U_w2.out]
            have fv4 : w2.frozen? ⟨w.heap.size, 4, none⟩ = false := by simp [World.frozen?, show w2.heap[w.heap.size]? = _ from V_w2.out]
            have fu4 : w2.frozen? ⟨w.heap.size + 1, 4, none⟩ = false := by simp [World.frozen?, show w2.heap[w.heap.size + 1]? = _ from U_w2.out]
            have S1 := plain_store9 V_w2.out a b c ⟨#[]⟩ ⟨#[]⟩
            have B1 := below_store9 (Nat.le_refl w.heap.size) (.int .u64 a) (.int .u64 b) (.int .u64 c) (.string ⟨#[]⟩) (.string ⟨#[]⟩) w b_w2
            have S2 := plain_other9 (h := w.heap.size) (by omega) (.int .u64 a) (.int .u64 b) (.int .u64 c) (.string ⟨#[]⟩) (.string ⟨#[]⟩) U_w2.out
            have T1 := plain_other9 (h := w.heap.size + 1) (by omega) (.int .u64 x) (.int .u64 y) (.int .u64 z) (.string ⟨#[]⟩) (.string ⟨#[]⟩) S1
            have T2 := plain_store9 S2 x y z ⟨#[]⟩ ⟨#[]⟩
            have B2 := below_store9 (g := w.heap.size + 1) (by omega) (.int .u64 x) (.int .u64 y) (.int .u64 z) (.string ⟨#[]⟩) (.string ⟨#[]⟩) w B1
            have HS := Lib.hid (And.intro T1 (And.intro T2 B2))
            have HB1 := Lib.hid B1
            clear S1 S2 T1 T2 B1 B2
            refine wpAnyH_ready (rs := [4]) (by kernel_rfl) (by simp) ?_
            refine (AllReadyH.cons rfl (fun K hK => ?_) AllReadyH.nil)
            go_simp
            refine hK.out _ _ HB1 (fun hH2 => ?_)
            clear hK K hHeld
            have hHeld := hH2
            clear hH2
            (try simp only [Act.put, List.getElem_toArray, List.getElem_cons_zero, List.getElem_cons_succ, List.setIfInBounds_toArray, List.set_cons_zero, List.set_cons_succ])
            refine wpAnyH_ready (rs := [5]) (by kernel_rfl) (by simp) ?_
            refine (AllReadyH.cons rfl (fun K hK => ?_) AllReadyH.nil)
            go_simp
            refine hK.out _ _ (show Hid (Below w.heap.size w _) from HS.out.2.2) (fun hH2 => ?_)
            clear hK K hHeld
            (try simp only [Act.put, List.getElem_toArray, List.getElem_cons_zero, List.getElem_cons_succ, List.setIfInBounds_toArray, List.set_cons_zero, List.set_cons_succ])
            refine wpAnyH_done (by kernel_rfl) ?_ _
            exact ⟨rfl, rfl, HS.out.1, HS.out.2.1, HS.out.2.2⟩
          · go_simp
            refine hK.out _ _ (show Hid (Below w.heap.size w _) from bb.drew) (fun hH2 => ?_)
            clear hK K hHeld
            have hHeld := hH2
            clear hH2
            (try simp only [Act.put, List.getElem_toArray, List.getElem_cons_zero, List.getElem_cons_succ, List.setIfInBounds_toArray, List.set_cons_zero, List.set_cons_succ])
            refine wpAnyH_ready (rs := [1]) (by kernel_rfl) (by simp) ?_
            refine (AllReadyH.cons rfl (fun K hK => ?_) AllReadyH.nil)
            go_simp
            go_at_call 6
            refine (bare_ir a b c p m _).mono ?_
            rintro e w1 ⟨rfl, hb1⟩
            have b_w1 : Below w.heap.size w w1 := bb.trans ((show Below wb.heap.size wb w1 from undrew hb1).mono bb.size)
            have V_w1 := Lib.hid (PlainAt.below8 hPv2.out (show Below wb.heap.size wb w1 from undrew hb1))
            have U_w1 := Lib.hid (PlainAt.below8 hPw2.out (show Below wb.heap.size wb w1 from undrew hb1))
            refine hK.out _ _ (Lib.hid b_w1) (fun hH2 => ?_)
            clear hK K hHeld hb1
            have hHeld := hH2
            clear hH2
            (try simp only [Act.put, List.getElem_toArray, List.getElem_cons_zero, List.getElem_cons_succ, List.setIfInBounds_toArray, List.set_cons_zero, List.set_cons_succ])
            clear v0 v1 v2 v3 v4 u0 u1 u2 u3 u4
            have v0 := V_w1.out.cell 0
            have u0 := U_w1.out.cell 0
            have v1 := V_w1.out.cell 1
            have u1 := U_w1.out.cell 1
            have v2 := V_w1.out.cell 2
            have u2 := U_w1.out.cell 2
            have v3 := V_w1.out.cell 3
            have u3 := U_w1.out.cell 3
            have v4 := V_w1.out.cell 4
            have u4 := U_w1.out.cell 4
            refine wpAnyH_ready (rs := [3]) (by kernel_rfl) (by simp) ?_
            refine (AllReadyH.cons rfl (fun K hK => ?_) AllReadyH.nil)
            go_simp
            go_at_call 6
            refine (bare_ir x y z q n _).mono ?_
            rintro e w2 ⟨rfl, hb1⟩
            have b_w2 : Below w.heap.size w w2 := b_w1.trans ((show Below w1.heap.size w1 w2 from hb1).mono b_w1.size)
            have V_w2 := Lib.hid (PlainAt.below8 V_w1.out (show Below w1.heap.size w1 w2 from hb1))
            have U_w2 := Lib.hid (PlainAt.below8 U_w1.out (show Below w1.heap.size w1 w2 from hb1))
            refine hK.out _ _ (Lib.hid b_w2) (fun hH2 => ?_)
            clear hK K hHeld hb1
            have hHeld := hH2
            clear hH2
            (try simp only [Act.put, List.getElem_toArray, List.getElem_cons_zero, List.getElem_cons_succ, List.setIfInBounds_toArray, List.set_cons_zero, List.set_cons_succ])
            clear v0 v1 v2 v3 v4 u0 u1 u2 u3 u4
            have v0 := V_w2.out.cell 0
            have u0 := U_w2.out.cell 0
            have v1 := V_w2.out.cell 1
            have u1 := U_w2.out.cell 1
            have v2 := V_w2.out.cell 2
            have u2 := U_w2.out.cell 2
            have v3 := V_w2.out.cell 3
            have u3 := U_w2.out.cell 3
            have v4 := V_w2.out.cell 4
            have u4 := U_w2.out.cell 4
            have fv0 : w2.frozen? ⟨w.heap.size, 0, none⟩ = false := by simp [World.frozen?, show w2.heap[w.heap.size]? = _ from V_w2.out]
            have fu0 : w2.frozen? ⟨w.heap.size + 1, 0, none⟩ = false := by simp [World.frozen?, show w2.heap[w.heap.size + 1]? = _ from U_w2.out]
            have fv1 : w2.frozen? ⟨w.heap.size, 1, none⟩ = false := by simp [World.frozen?, show w2.heap[w.heap.size]? = _ from V_w2.out]
            have fu1 : w2.frozen? ⟨w.heap.size + 1, 1, none⟩ = false := by simp [World.frozen?, show w2.heap[w.heap.size + 1]? = _ from U_w2.out]
            have fv2 : w2.frozen? ⟨w.heap.size, 2, none⟩ = false := by simp [World.frozen?, show w2.heap[w.heap.size]? = _ from V_w2.out]
            have fu2 : w2.frozen? ⟨w.heap.size + 1, 2, none⟩ = false := by simp [World.frozen?, show w2.heap[w.heap.size + 1]? = _ from U_w2.out]
            have fv3 : w2.frozen? ⟨w.heap.size, 3, none⟩ = false := by simp [World.frozen?, show w2.heap[w.heap.size]? = _ from V_w2.out]
            have fu3 : w2.frozen? ⟨w.heap.size + 1, 3, none⟩ = false := by simp [World.frozen?, show w2.heap[w.heap.size + 1]? = _ from U_w2.out]
            have fv4 : w2.frozen? ⟨w.heap.size, 4, none⟩ = false := by simp [World.frozen?, show w2.heap[w.heap.size]? = _ from V_w2.out]
            have fu4 : w2.frozen? ⟨w.heap.size + 1, 4, none⟩ = false := by simp [World.frozen?, show w2.heap[w.heap.size + 1]? = _ from U_w2.out]
            have S1 := plain_store9 V_w2.out a b c ⟨#[]⟩ ⟨#[]⟩
            have B1 := below_store9 (Nat.le_refl w.heap.size) (.int .u64 a) (.int .u64 b) (.int .u64 c) (.string ⟨#[]⟩) (.string ⟨#[]⟩) w b_w2
            have S2 := plain_other9 (h := w.heap.size) (by omega) (.int .u64 a) (.int .u64 b) (.int .u64 c) (.string ⟨#[]⟩) (.string ⟨#[]⟩) U_w2.out
            have T1 := plain_other9 (h := w.heap.size + 1) (by omega) (.int .u64 x) (.int .u64 y) (.int .u64 z) (.string ⟨#[]⟩) (.string ⟨#[]⟩) S1
            have T2 := plain_store9 S2 x y z ⟨#[]⟩ ⟨#[]⟩
            have B2 := below_store9 (g := w.heap.size + 1) (by omega) (.int .u64 x) (.int .u64 y) (.int .u64 z) (.string ⟨#[]⟩) (.string ⟨#[]⟩) w B1
            have HS := Lib.hid (And.intro T1 (And.intro T2 B2))
            have HB1 := Lib.hid B1
            clear S1 S2 T1 T2 B1 B2
            refine wpAnyH_ready (rs := [4]) (by kernel_rfl) (by simp) ?_
            refine (AllReadyH.cons rfl (fun K hK => ?_) AllReadyH.nil)
            go_simp
            refine hK.out _ _ HB1 (fun hH2 => ?_)
            clear hK K hHeld
            have hHeld := hH2
            clear hH2
            (try simp only [Act.put, List.getElem_toArray, List.getElem_cons_zero, List.getElem_cons_succ, List.setIfInBounds_toArray, List.set_cons_zero, List.set_cons_succ])
            refine wpAnyH_ready (rs := [5]) (by kernel_rfl) (by simp) ?_
            refine (AllReadyH.cons rfl (fun K hK => ?_) AllReadyH.nil)
            go_simp
            refine hK.out _ _ (show Hid (Below w.heap.size w _) from HS.out.2.2) (fun hH2 => ?_)
            clear hK K hHeld
            (try simp only [Act.put, List.getElem_toArray, List.getElem_cons_zero, List.getElem_cons_succ, List.setIfInBounds_toArray, List.set_cons_zero, List.set_cons_succ])
            refine wpAnyH_done (by kernel_rfl) ?_ _
            exact ⟨rfl, rfl, HS.out.1, HS.out.2.1, HS.out.2.2⟩
        · go_simp
          refine hK.out _ _ (show Hid (Below w.heap.size w _) from bb.drew) (fun hH2 => ?_)
          clear hK K hHeld
          have hHeld := hH2
          clear hH2
          (try simp only [Act.put, List.getElem_toArray, List.getElem_cons_zero, List.getElem_cons_succ, List.setIfInBounds_toArray, List.set_cons_zero, List.set_cons_succ])
          refine wpAnyH_ready (rs := [0]) (by kernel_rfl) (by simp) ?_
          refine (AllReadyH.cons rfl (fun K hK => ?_) AllReadyH.nil)
          go_simp
          refine hK.out _ _ (show Hid (Below w.heap.size w _) from bb.drew) (fun hH2 => ?_)
          clear hK K hHeld
          have hHeld := hH2
          clear hH2
          (try simp only [Act.put, List.getElem_toArray, List.getElem_cons_zero, List.getElem_cons_succ, List.setIfInBounds_toArray, List.set_cons_zero, List.set_cons_succ])
          refine wpAnyH_ready (rs := [1]) (by kernel_rfl) (by simp) ?_
          refine (AllReadyH.cons rfl (fun K hK => ?_) AllReadyH.nil)
          go_simp
          go_at_call 6
          refine (bare_ir a b c p m _).mono ?_
          rintro e w1 ⟨rfl, hb1⟩
          have b_w1 : Below w.heap.size w w1 := bb.trans ((show Below wb.heap.size wb w1 from undrew hb1).mono bb.size)
          have V_w1 := Lib.hid (PlainAt.below8 hPv2.out (show Below wb.heap.size wb w1 from undrew hb1))
          have U_w1 := Lib.hid (PlainAt.below8 hPw2.out (show Below wb.heap.size wb w1 from undrew hb1))
          refine hK.out _ _ (Lib.hid b_w1) (fun hH2 => ?_)
          clear hK K hHeld hb1
          have hHeld := hH2
          clear hH2
          (try simp only [Act.put, List.getElem_toArray, List.getElem_cons_zero, List.getElem_cons_succ, List.setIfInBounds_toArray, List.set_cons_zero, List.set_cons_succ])
          clear v0 v1 v2 v3 v4 u0 u1 u2 u3 u4
          have v0 := V_w1.out.cell 0
          have u0 := U_w1.out.cell 0
          have v1 := V_w1.out.cell 1
          have u1 := U_w1.out.cell 1
          have v2 := V_w1.out.cell 2
          have u2 := U_w1.out.cell 2
          have v3 := V_w1.out.cell 3
          have u3 := U_w1.out.cell 3
          have v4 := V_w1.out.cell 4
          have u4 := U_w1.out.cell 4
          refine wpAnyH_ready (rs := [3]) (by kernel_rfl) (by simp) ?_
          refine (AllReadyH.cons rfl (fun K hK => ?_) AllReadyH.nil)
          go_simp
          go_at_call 6
          refine (bare_ir x y z q n _).mono ?_
          rintro e w2 ⟨rfl, hb1⟩
          have b_w2 : Below w.heap.size w w2 := b_w1.trans ((show Below w1.heap.size w1 w2 from hb1).mono b_w1.size)
          have V_w2 := Lib.hid (PlainAt.below8 V_w1.out (show Below w1.heap.size w1 w2 from hb1))
          have U_w2 := Lib.hid (PlainAt.below8 U_w1.out (show Below w1.heap.size w1 w2 from hb1))
          refine hK.out _ _ (Lib.hid b_w2) (fun hH2 => ?_)
          clear hK K hHeld hb1
          have hHeld := hH2
          clear hH2
          (try simp only [Act.put, List.getElem_toArray, List.getElem_cons_zero, List.getElem_cons_succ, List.setIfInBounds_toArray, List.set_cons_zero, List.set_cons_succ])
          clear v0 v1 v2 v3 v4 u0 u1 u2 u3 u4
          have v0 := V_w2.out.cell 0
          have u0 := U_w2.out.cell 0
          have v1 := V_w2.out.cell 1
          have u1 := U_w2.out.cell 1
          have v2 := V_w2.out.cell 2
          have u2 := U_w2.out.cell 2
          have v3 := V_w2.out.cell 3
          have u3 := U_w2.out.cell 3
          have v4 := V_w2.out.cell 4
          have u4 := U_w2.out.cell 4
          have fv0 : w2.frozen? ⟨w.heap.size, 0, none⟩ = false := by simp [World.frozen?, show w2.heap[w.heap.size]? = _ from V_w2.out]
          have fu0 : w2.frozen? ⟨w.heap.size + 1, 0, none⟩ = false := by simp [World.frozen?, show w2.heap[w.heap.size + 1]? = _ from U_w2.out]
          have fv1 : w2.frozen? ⟨w.heap.size, 1, none⟩ = false := by simp [World.frozen?, show w2.heap[w.heap.size]? = _ from V_w2.out]
          have fu1 : w2.frozen? ⟨w.heap.size + 1, 1, none⟩ = false := by simp [World.frozen?, show w2.heap[w.heap.size + 1]? = _ from U_w2.out]
          have fv2 : w2.frozen? ⟨w.heap.size, 2, none⟩ = false := by simp [World.frozen?, show w2.heap[w.heap.size]? = _ from V_w2.out]
          have fu2 : w2.frozen? ⟨w.heap.size + 1, 2, none⟩ = false := by simp [World.frozen?, show w2.heap[w.heap.size + 1]? = _ from U_w2.out]
          have fv3 : w2.frozen? ⟨w.heap.size, 3, none⟩ = false := by simp [World.frozen?, show w2.heap[w.heap.size]? = _ from V_w2.out]
          have fu3 : w2.frozen? ⟨w.heap.size + 1, 3, none⟩ = false := by simp [World.frozen?, show w2.heap[w.heap.size + 1]? = _ from U_w2.out]
          have fv4 : w2.frozen? ⟨w.heap.size, 4, none⟩ = false := by simp [World.frozen?, show w2.heap[w.heap.size]? = _ from V_w2.out]
          have fu4 : w2.frozen? ⟨w.heap.size + 1, 4, none⟩ = false := by simp [World.frozen?, show w2.heap[w.heap.size + 1]? = _ from U_w2.out]
          have S1 := plain_store9 V_w2.out a b c ⟨#[]⟩ ⟨#[]⟩
          have B1 := below_store9 (Nat.le_refl w.heap.size) (.int .u64 a) (.int .u64 b) (.int .u64 c) (.string ⟨#[]⟩) (.string ⟨#[]⟩) w b_w2
          have S2 := plain_other9 (h := w.heap.size) (by omega) (.int .u64 a) (.int .u64 b) (.int .u64 c) (.string ⟨#[]⟩) (.string ⟨#[]⟩) U_w2.out
          have T1 := plain_other9 (h := w.heap.size + 1) (by omega) (.int .u64 x) (.int .u64 y) (.int .u64 z) (.string ⟨#[]⟩) (.string ⟨#[]⟩) S1
          have T2 := plain_store9 S2 x y z ⟨#[]⟩ ⟨#[]⟩
          have B2 := below_store9 (g := w.heap.size + 1) (by omega) (.int .u64 x) (.int .u64 y) (.int .u64 z) (.string ⟨#[]⟩) (.string ⟨#[]⟩) w B1
          have HS := Lib.hid (And.intro T1 (And.intro T2 B2))
          have HB1 := Lib.hid B1
          clear S1 S2 T1 T2 B1 B2
          refine wpAnyH_ready (rs := [4]) (by kernel_rfl) (by simp) ?_
          refine (AllReadyH.cons rfl (fun K hK => ?_) AllReadyH.nil)
          go_simp
          refine hK.out _ _ HB1 (fun hH2 => ?_)
          clear hK K hHeld
          have hHeld := hH2
          clear hH2
          (try simp only [Act.put, List.getElem_toArray, List.getElem_cons_zero, List.getElem_cons_succ, List.setIfInBounds_toArray, List.set_cons_zero, List.set_cons_succ])
          refine wpAnyH_ready (rs := [5]) (by kernel_rfl) (by simp) ?_
          refine (AllReadyH.cons rfl (fun K hK => ?_) AllReadyH.nil)
          go_simp
          refine hK.out _ _ (show Hid (Below w.heap.size w _) from HS.out.2.2) (fun hH2 => ?_)
          clear hK K hHeld
          (try simp only [Act.put, List.getElem_toArray, List.getElem_cons_zero, List.getElem_cons_succ, List.setIfInBounds_toArray, List.set_cons_zero, List.set_cons_succ])
          refine wpAnyH_done (by kernel_rfl) ?_ _
          exact ⟨rfl, rfl, HS.out.1, HS.out.2.1, HS.out.2.2⟩
      case hq =>
        rintro wd ⟨hPa, hPb, bd⟩
        (try simp only [Act.put, List.getElem_toArray, List.getElem_cons_zero, List.getElem_cons_succ, List.setIfInBounds_toArray, List.set_cons_zero, List.set_cons_succ])
        have HPa := Lib.hid hPa
        have HPb := Lib.hid hPb
        clear hPa hPb hPv2 hPw2 bb
        obtain ⟨R, HR⟩ : ∃ R, Hid (numI 3 a b c x y z = R) := ⟨_, rfl⟩
        have p0 := HPa.out.cell 0
        have q0 := HPb.out.cell 0
        have p1 := HPa.out.cell 1
        have q1 := HPb.out.cell 1
        have p2 := HPa.out.cell 2
        have q2 := HPb.out.cell 2
        have p3 := HPa.out.cell 3
        have q3 := HPb.out.cell 3
        have p4 := HPa.out.cell 4
        have q4 := HPb.out.cell 4
        go_wp2_with fail
        refine (spCmp_bare a b c x y z _).mono ?_
        rintro e we ⟨rfl, hbe⟩
        rw [HR.out]
        have hPa2 := Lib.hid (HPa.out.below8 hbe)
        have hPb2 := Lib.hid (HPb.out.below8 hbe)
        have bE := bd.trans (hbe.mono bd.size)
        clear p0 q0 p1 q1 p2 q2 p3 q3 p4 q4
        clear hbe HPa HPb bd
        have p0 := hPa2.out.cell 0
        have q0 := hPb2.out.cell 0
        have p1 := hPa2.out.cell 1
        have q1 := hPb2.out.cell 1
        have p2 := hPa2.out.cell 2
        have q2 := hPb2.out.cell 2
        have p3 := hPa2.out.cell 3
        have q3 := hPb2.out.cell 3
        have p4 := hPa2.out.cell 4
        have q4 := hPb2.out.cell 4
        by_cases hR : 0 ≤ R
        · have hR2 : (0 ≤ R) = True := eq_true hR
          go_wp2_with fail
          go_ret
          exact ⟨rfl, bE⟩
        · have hR2 : (0 ≤ R) = False := eq_false hR
          have HLt := Lib.hid ((numI_neg a b c x y z).1 (by rw [HR.out]; omega))
          have QA := Lib.hid (PlainAt.alloc hPb2.out (.cells #[.int .u64 a, .int .u64 b, .int .u64 c] 29))
          have r0 := QA.out.cell 0
          have r1 := QA.out.cell 1
          have r2 := QA.out.cell 2
          go_wp2_with fail
          refine wp_named ?_
          intro W1 hW1
          obtain ⟨G, hG⟩ : ∃ G, G = we.heap.size := ⟨_, rfl⟩
          rw [← hG]
          have HW0 : Hid (RW w a b c x y z G W1 ((.slice none 0 0)) (([] : List Int)) a b c) := by
            rw [← hW1, hG]
            exact ⟨OwnOf.nil _ _ _ _ _, (arrAt_last _ _ _ rfl).alloc _, arrAt_last _ _ _ (by simp), (hPa2.out.alloc _).alloc _, (hPb2.out.alloc _).alloc _, (bE.alloc bE.size _).alloc (Nat.le_trans bE.size (by simp)) _⟩
          have hG1 : w.heap.size + 1 < G := by rw [hG]; exact hPb2.out.lt
          have HI0 := Lib.hid (RInv.start (a, b, c) (x, y, z) hv.out HLt.out)
          clear hW1 hG r0 r1 r2 QA p0 q0 p1 q1 p2 q2 p3 q3 p4 q4 hPa2 hPb2 bE HLt
          obtain ⟨i0, hi, hz0, hz1, hz2⟩ := info_parts Tryd.infoU8
          go_loopw [5, 43] (fun sv iv wr => ∃ (j : Nat) (S : List Int) (fa fb fc : Int), j ≤ 3 ∧ iv = .int .i64 j ∧ S.length ≤ 32 * j ∧ Hid (RInv (a, b, c) (x, y, z) j S (fa, fb, fc)) ∧ Hid (RW w a b c x y z G wr (sv) (S) fa fb fc)) (fun _ iv _ => 3 - (intOf iv).toNat)
          case atStart => exact ⟨0, [], a, b, c, by omega, rfl, by simp, HI0, HW0⟩
          case round =>
            obtain ⟨j, S, fa, fb, fc, hj, rfl, hSl, HI, HW⟩ := hrel
            clear HW0 HI0
            rcases j with _ | _ | _ | j
            · have D0 : Hid ((0 ≤ fa ∧ fa < 18446744073709551616) ∧ (0 ≤ x ∧ x < 18446744073709551616)) := by
                obtain ⟨⟨F0, F1⟩, ⟨F2, F3⟩, F4, F5⟩ := HI.out.2.2.1
                obtain ⟨⟨T0, T1⟩, ⟨T2, T3⟩, T4, T5⟩ := hu.out
                exact ⟨⟨by assumption, by assumption⟩, ⟨by assumption, by assumption⟩⟩
              by_cases hlt : fa < x
              · have hlt2 : (fa < x) = True := eq_true hlt
                have wd : IntKind.u64.wrap (x - fa) = x - fa := by have := D0.out; rw [IntKind.wrap_u64]; omega
                by_cases h32 : x - fa ≤ 32
                · have h32a : (x - fa ≤ 32) = True := eq_true h32
                  have h32b : (32 < x - fa) = False := eq_false (by omega)
                  go_wp2_with fail
                  refine wp_region_held_drew (S := fun w' => Hid (w' = wr.drew)) (by kernel_rfl) (show Hid _ from Lib.hid rfl) (fun hHeld => ?_)
                  (try simp only [Act.put, List.getElem_toArray, List.getElem_cons_zero, List.getElem_cons_succ, List.setIfInBounds_toArray, List.set_cons_zero, List.set_cons_succ])
                  refine wpAnyH_take (i := 0) (v := ?_) rfl (by kernel_rfl) (by kernel_rfl) (by kernel_rfl) (fun _ _ _ h => h) (Or.inl ⟨by rfl, ?_⟩) (by assumption) ?_
                  rotate_left
                  · (intro wx hSw; have k0 : wx.cell? ⟨G, 0, none⟩ = some (.int .u64 fa) := by rw [hSw.out]; exact HW.out.2.1.drew'.cell 0
                     have k1 : wx.cell? ⟨G + 1, 0, none⟩ = some (.int .u64 x) := by rw [hSw.out]; exact HW.out.2.2.1.drew'.cell 0
                     go_simp; (try with_reducible rfl))
                  (try simp only [Act.put, List.getElem_toArray, List.getElem_cons_zero, List.getElem_cons_succ, List.setIfInBounds_toArray, List.set_cons_zero, List.set_cons_succ])
                  refine wpAnyH_take (i := 1) (v := ?_) rfl (by kernel_rfl) (by kernel_rfl) (by kernel_rfl) (fun _ _ _ h => h) (Or.inl ⟨by rfl, ?_⟩) (by assumption) ?_
                  rotate_left
                  · (intro wx hSw; have k0 : wx.cell? ⟨G, 0, none⟩ = some (.int .u64 fa) := by rw [hSw.out]; exact HW.out.2.1.drew'.cell 0
                     have k1 : wx.cell? ⟨G + 1, 0, none⟩ = some (.int .u64 x) := by rw [hSw.out]; exact HW.out.2.2.1.drew'.cell 0
                     go_simp; (try with_reducible rfl))
                  (try simp only [Act.put, List.getElem_toArray, List.getElem_cons_zero, List.getElem_cons_succ, List.setIfInBounds_toArray, List.set_cons_zero, List.set_cons_succ])
                  refine wpAnyH_take (i := 2) (v := ?_) rfl (by kernel_rfl) (by kernel_rfl) (by kernel_rfl) (fun _ _ _ h => h) (Or.inl ⟨by rfl, ?_⟩) (by assumption) ?_
                  rotate_left
                  · (intro wx hSw; have k0 : wx.cell? ⟨G, 0, none⟩ = some (.int .u64 fa) := by rw [hSw.out]; exact HW.out.2.1.drew'.cell 0
                     have k1 : wx.cell? ⟨G + 1, 0, none⟩ = some (.int .u64 x) := by rw [hSw.out]; exact HW.out.2.2.1.drew'.cell 0
                     go_simp; (try with_reducible rfl))
                  (try simp only [Act.put, List.getElem_toArray, List.getElem_cons_zero, List.getElem_cons_succ, List.setIfInBounds_toArray, List.set_cons_zero, List.set_cons_succ])
                  refine wpAnyH_take (i := 3) (v := ?_) rfl (by kernel_rfl) (by kernel_rfl) (by kernel_rfl) (fun _ _ _ h => h) (Or.inl ⟨by rfl, ?_⟩) (by assumption) ?_
                  rotate_left
                  · (intro wx hSw; have k0 : wx.cell? ⟨G, 0, none⟩ = some (.int .u64 fa) := by rw [hSw.out]; exact HW.out.2.1.drew'.cell 0
                     have k1 : wx.cell? ⟨G + 1, 0, none⟩ = some (.int .u64 x) := by rw [hSw.out]; exact HW.out.2.2.1.drew'.cell 0
                     go_simp; (try with_reducible rfl))
                  (try simp only [Act.put, List.getElem_toArray, List.getElem_cons_zero, List.getElem_cons_succ, List.setIfInBounds_toArray, List.set_cons_zero, List.set_cons_succ])
                  refine wpAnyH_take (i := 4) (v := ?_) rfl (by kernel_rfl) (by kernel_rfl) (by kernel_rfl) (fun _ _ _ h => h) (Or.inl ⟨by rfl, ?_⟩) (by assumption) ?_
                  rotate_left
                  · (intro wx hSw; have k0 : wx.cell? ⟨G, 0, none⟩ = some (.int .u64 fa) := by rw [hSw.out]; exact HW.out.2.1.drew'.cell 0
                     have k1 : wx.cell? ⟨G + 1, 0, none⟩ = some (.int .u64 x) := by rw [hSw.out]; exact HW.out.2.2.1.drew'.cell 0
                     go_simp; (try with_reducible rfl))
                  (try simp only [Act.put, List.getElem_toArray, List.getElem_cons_zero, List.getElem_cons_succ, List.setIfInBounds_toArray, List.set_cons_zero, List.set_cons_succ])
                  refine wpAnyH_take (i := 5) (v := ?_) rfl (by kernel_rfl) (by kernel_rfl) (by kernel_rfl) (fun _ _ _ h => h) (Or.inl ⟨by rfl, ?_⟩) (by assumption) ?_
                  rotate_left
                  · (intro wx hSw; have k0 : wx.cell? ⟨G, 0, none⟩ = some (.int .u64 fa) := by rw [hSw.out]; exact HW.out.2.1.drew'.cell 0
                     have k1 : wx.cell? ⟨G + 1, 0, none⟩ = some (.int .u64 x) := by rw [hSw.out]; exact HW.out.2.2.1.drew'.cell 0
                     go_simp; (try with_reducible rfl))
                  (try simp only [Act.put, List.getElem_toArray, List.getElem_cons_zero, List.getElem_cons_succ, List.setIfInBounds_toArray, List.set_cons_zero, List.set_cons_succ])
                  refine wpAnyH_take (i := 6) (v := ?_) rfl (by kernel_rfl) (by kernel_rfl) (by kernel_rfl) (fun _ _ _ h => h) (Or.inl ⟨by rfl, ?_⟩) (by assumption) ?_
                  rotate_left
                  · (intro wx hSw; have k0 : wx.cell? ⟨G, 0, none⟩ = some (.int .u64 fa) := by rw [hSw.out]; exact HW.out.2.1.drew'.cell 0
                     have k1 : wx.cell? ⟨G + 1, 0, none⟩ = some (.int .u64 x) := by rw [hSw.out]; exact HW.out.2.2.1.drew'.cell 0
                     go_simp; (try with_reducible rfl))
                  (try simp only [Act.put, List.getElem_toArray, List.getElem_cons_zero, List.getElem_cons_succ, List.setIfInBounds_toArray, List.set_cons_zero, List.set_cons_succ])
                  refine wpAnyH_take (i := 7) (v := ?_) rfl (by kernel_rfl) (by kernel_rfl) (by kernel_rfl) (fun _ _ _ h => h) (Or.inl ⟨by rfl, ?_⟩) (by assumption) ?_
                  rotate_left
                  · (intro wx hSw; have k0 : wx.cell? ⟨G, 0, none⟩ = some (.int .u64 fa) := by rw [hSw.out]; exact HW.out.2.1.drew'.cell 0
                     have k1 : wx.cell? ⟨G + 1, 0, none⟩ = some (.int .u64 x) := by rw [hSw.out]; exact HW.out.2.2.1.drew'.cell 0
                     go_simp; (try with_reducible rfl))
                  (try simp only [Act.put, List.getElem_toArray, List.getElem_cons_zero, List.getElem_cons_succ, List.setIfInBounds_toArray, List.set_cons_zero, List.set_cons_succ])
                  refine wpAnyH_take (i := 8) (v := ?_) rfl (by kernel_rfl) (by kernel_rfl) (by kernel_rfl) (fun _ _ _ h => h) (Or.inl ⟨by rfl, ?_⟩) (by assumption) ?_
                  rotate_left
                  · (intro wx hSw; have k0 : wx.cell? ⟨G, 0, none⟩ = some (.int .u64 fa) := by rw [hSw.out]; exact HW.out.2.1.drew'.cell 0
                     have k1 : wx.cell? ⟨G + 1, 0, none⟩ = some (.int .u64 x) := by rw [hSw.out]; exact HW.out.2.2.1.drew'.cell 0
                     go_simp; (try with_reducible rfl))
                  (try simp only [Act.put, List.getElem_toArray, List.getElem_cons_zero, List.getElem_cons_succ, List.setIfInBounds_toArray, List.set_cons_zero, List.set_cons_succ])
                  refine wpAnyH_take (i := 9) (v := ?_) rfl (by kernel_rfl) (by kernel_rfl) (by kernel_rfl) (fun _ _ _ h => h) (Or.inl ⟨by rfl, ?_⟩) (by assumption) ?_
                  rotate_left
                  · (intro wx hSw; have k0 : wx.cell? ⟨G, 0, none⟩ = some (.int .u64 fa) := by rw [hSw.out]; exact HW.out.2.1.drew'.cell 0
                     have k1 : wx.cell? ⟨G + 1, 0, none⟩ = some (.int .u64 x) := by rw [hSw.out]; exact HW.out.2.2.1.drew'.cell 0
                     go_simp; (try with_reducible rfl))
                  (try simp only [Act.put, List.getElem_toArray, List.getElem_cons_zero, List.getElem_cons_succ, List.setIfInBounds_toArray, List.set_cons_zero, List.set_cons_succ])
                  refine wpAnyH_take (i := 10) (v := ?_) rfl (by kernel_rfl) (by kernel_rfl) (by kernel_rfl) (fun _ _ _ h => h) (Or.inl ⟨by rfl, ?_⟩) (by assumption) ?_
                  rotate_left
                  · (intro wx hSw; have k0 : wx.cell? ⟨G, 0, none⟩ = some (.int .u64 fa) := by rw [hSw.out]; exact HW.out.2.1.drew'.cell 0
                     have k1 : wx.cell? ⟨G + 1, 0, none⟩ = some (.int .u64 x) := by rw [hSw.out]; exact HW.out.2.2.1.drew'.cell 0
                     go_simp; (try with_reducible rfl))
                  (try simp only [Act.put, List.getElem_toArray, List.getElem_cons_zero, List.getElem_cons_succ, List.setIfInBounds_toArray, List.set_cons_zero, List.set_cons_succ])
                  refine wpAnyH_take (i := 11) (v := ?_) rfl (by kernel_rfl) (by kernel_rfl) (by kernel_rfl) (fun _ _ _ h => h) (Or.inl ⟨by rfl, ?_⟩) (by assumption) ?_
                  rotate_left
                  · (intro wx hSw; have k0 : wx.cell? ⟨G, 0, none⟩ = some (.int .u64 fa) := by rw [hSw.out]; exact HW.out.2.1.drew'.cell 0
                     have k1 : wx.cell? ⟨G + 1, 0, none⟩ = some (.int .u64 x) := by rw [hSw.out]; exact HW.out.2.2.1.drew'.cell 0
                     go_simp; (try with_reducible rfl))
                  (try simp only [Act.put, List.getElem_toArray, List.getElem_cons_zero, List.getElem_cons_succ, List.setIfInBounds_toArray, List.set_cons_zero, List.set_cons_succ])
                  refine wpAnyH_take (i := 12) (v := ?_) rfl (by kernel_rfl) (by kernel_rfl) (by kernel_rfl) (fun _ _ _ h => h) (Or.inl ⟨by rfl, ?_⟩) (by assumption) ?_
                  rotate_left
                  · (intro wx hSw; have k0 : wx.cell? ⟨G, 0, none⟩ = some (.int .u64 fa) := by rw [hSw.out]; exact HW.out.2.1.drew'.cell 0
                     have k1 : wx.cell? ⟨G + 1, 0, none⟩ = some (.int .u64 x) := by rw [hSw.out]; exact HW.out.2.2.1.drew'.cell 0
                     go_simp; (try with_reducible rfl))
                  (try simp only [Act.put, List.getElem_toArray, List.getElem_cons_zero, List.getElem_cons_succ, List.setIfInBounds_toArray, List.set_cons_zero, List.set_cons_succ])
                  refine wpAnyH_take (i := 13) (v := ?_) rfl (by kernel_rfl) (by kernel_rfl) (by kernel_rfl) (fun _ _ _ h => h) (Or.inl ⟨by rfl, ?_⟩) (by assumption) ?_
                  rotate_left
                  · (intro wx hSw; have k0 : wx.cell? ⟨G, 0, none⟩ = some (.int .u64 fa) := by rw [hSw.out]; exact HW.out.2.1.drew'.cell 0
                     have k1 : wx.cell? ⟨G + 1, 0, none⟩ = some (.int .u64 x) := by rw [hSw.out]; exact HW.out.2.2.1.drew'.cell 0
                     go_simp; (try with_reducible rfl))
                  (try simp only [Act.put, List.getElem_toArray, List.getElem_cons_zero, List.getElem_cons_succ, List.setIfInBounds_toArray, List.set_cons_zero, List.set_cons_succ])
                  refine wpAnyH_take (i := 14) (v := ?_) rfl (by kernel_rfl) (by kernel_rfl) (by kernel_rfl) (fun _ _ _ h => h) (Or.inl ⟨by rfl, ?_⟩) (by assumption) ?_
                  rotate_left
                  · (intro wx hSw; have k0 : wx.cell? ⟨G, 0, none⟩ = some (.int .u64 fa) := by rw [hSw.out]; exact HW.out.2.1.drew'.cell 0
                     have k1 : wx.cell? ⟨G + 1, 0, none⟩ = some (.int .u64 x) := by rw [hSw.out]; exact HW.out.2.2.1.drew'.cell 0
                     go_simp; (try with_reducible rfl))
                  (try simp only [Act.put, List.getElem_toArray, List.getElem_cons_zero, List.getElem_cons_succ, List.setIfInBounds_toArray, List.set_cons_zero, List.set_cons_succ])
                  refine wpAnyH_take (i := 15) (v := ?_) rfl (by kernel_rfl) (by kernel_rfl) (by kernel_rfl) (fun _ _ _ h => h) (Or.inl ⟨by rfl, ?_⟩) (by assumption) ?_
                  rotate_left
                  · (intro wx hSw; have k0 : wx.cell? ⟨G, 0, none⟩ = some (.int .u64 fa) := by rw [hSw.out]; exact HW.out.2.1.drew'.cell 0
                     have k1 : wx.cell? ⟨G + 1, 0, none⟩ = some (.int .u64 x) := by rw [hSw.out]; exact HW.out.2.2.1.drew'.cell 0
                     go_simp; (try with_reducible rfl))
                  (try simp only [Act.put, List.getElem_toArray, List.getElem_cons_zero, List.getElem_cons_succ, List.setIfInBounds_toArray, List.set_cons_zero, List.set_cons_succ])
                  refine wpAnyH_take (i := 16) (v := ?_) rfl (by kernel_rfl) (by kernel_rfl) (by kernel_rfl) (fun _ _ _ h => h) (Or.inl ⟨by rfl, ?_⟩) (by assumption) ?_
                  rotate_left
                  · (intro wx hSw; have k0 : wx.cell? ⟨G, 0, none⟩ = some (.int .u64 fa) := by rw [hSw.out]; exact HW.out.2.1.drew'.cell 0
                     have k1 : wx.cell? ⟨G + 1, 0, none⟩ = some (.int .u64 x) := by rw [hSw.out]; exact HW.out.2.2.1.drew'.cell 0
                     go_simp; (try with_reducible rfl))
                  (try simp only [Act.put, List.getElem_toArray, List.getElem_cons_zero, List.getElem_cons_succ, List.setIfInBounds_toArray, List.set_cons_zero, List.set_cons_succ])
                  refine wpAnyH_done (by kernel_rfl) ?_ _
                  have HV := Lib.hid (HW.out.below (W' := wr.drew) (Below.refl _ _).drew)
                  have k0 : wr.cell? ⟨G, 0, none⟩ = some (.int .u64 fa) := HW.out.2.1.cell 0
                  obtain ⟨M, hM⟩ : ∃ M : Nat, Hid ((M : Int) = x - fa) := ⟨(x - fa).toNat, by show _ = _; omega⟩
                  have hM32 : M ≤ 32 := by have := hM.out; omega
                  go_wp2_with fail
                  clear k0
                  obtain ⟨wo, rfl⟩ : ∃ wo : World, wo = wr := ⟨_, rfl⟩
                  go_loopw [5, 9] (fun sv2 nv wr => ∃ m : Nat, m ≤ M ∧ nv = .int .u64 (fa + m) ∧ Hid (RW w a b c x y z G wr (sv2) (S ++ List.replicate m 2) fa fb fc)) (fun _ nv _ => M - (intOf nv - fa).toNat)
                  case atStart => exact ⟨0, Nat.zero_le _, by go_num, by show RW _ _ _ _ _ _ _ _ _ _ _ _ _ _; simpa using HV.out⟩
                  case round =>
                    obtain ⟨m, hm, rfl, HQ⟩ := hrel
                    have k1 : wr.cell? ⟨G + 1, 0, none⟩ = some (.int .u64 x) := HQ.out.2.2.1.cell 0
                    by_cases hmM : m < M
                    · have hlt3 : (fa + (m : Int) < x) = True := eq_true (by have := hM.out; omega)
                      have hle3 : fa + (m : Int) + 1 < 18446744073709551616 := by have := hM.out; have := D0.out; omega
                      have hge3 : 0 ≤ fa := D0.out.1.1
                      go_wp2_with (at_builtin; refine stop_here ?_)
                      unfold Stop
                      have bA := (Below.refl wr.heap.size wr).alloc (Nat.le_refl _) (.cells #[.int .u8 2] 5)
                      have hlen : (S ++ List.replicate m (2 : Int)).length = S.length + m := by simp
                      obtain ⟨cs, hcl, hcz, hown2, hR⟩ := HQ.out.1.below RU8.mono bA
                      rw [hlen] at hown2 hcl
                      refine wpList_append_own _ rfl _ _ 28 rfl _ 5 i0 (.int .u8 0) 1 1 Tryd.underlying28 hi hz0 hz1 hz2 rfl (by decide) _ _ _ rfl hown2 ⟨wr.heap.size, 0, none⟩ 1 1 [.int .u8 2] rfl rfl (cells_new wr #[.int .u8 2] _) ?_ ?_ ?_ ?_ ?_
                      · intro y hy; simp at hy; rcases hy with rfl; rfl
                      · unfold maxLen; omega
                      · omega
                      · have h1 := HQ.out.2.2.1.lt; exact Nat.le_trans h1 bA.size
                      intro v' w2 hown3 hgrow _
                      have HN : Hid (RW w a b c x y z G w2 (v') (S ++ List.replicate (m + 1) 2) fa fb fc) := by
                        show RW _ _ _ _ _ _ _ _ _ _ _ _ _ _
                        rw [List.replicate_succ', ← List.append_assoc]
                        exact HQ.out.push _ _ hlen hcl hcz hown2 hR hgrow hown3 hG1
                      clear hgrow hown3 hown2 hR hcz hcl bA HQ k1 hlen
                      go_wp2_with fail
                      go_roundw
                      case rel => exact ⟨m + 1, by omega, by go_num, HN⟩
                      case measure => simp [intOf]; omega
                    · obtain rfl : m = M := by omega
                      have hlt3 : (fa + (m : Int) < x) = False := eq_false (by have := hM.out; omega)
                      go_wp2_with fail
                      have hM2 := Lib.hid (show (m : Int) = x - fa from hM.out)
                      clear k1 HW HV
                      refine wp_loop_rounds 3 ?_
                      rw [rounds_succ]
                      have k1 : wr.cell? ⟨G, 1, none⟩ = some (.int .u64 fb) := HQ.out.2.1.cell 1
                      have f1 : wr.frozen? ⟨G, 1, none⟩ = false := by simp [World.frozen?, show wr.heap[G]? = _ from HQ.out.2.1]
                      have HZ1 := Lib.hid (HQ.out.zero1 hG1)
                      go_wp2_with fail
                      clear k1 f1
                      rw [rounds_succ]
                      have k2 : (wr.setCell ⟨G, 1, none⟩ (.int .u64 0)).cell? ⟨G, 2, none⟩ = some (.int .u64 fc) := HZ1.out.2.1.cell 2
                      have f2 : (wr.setCell ⟨G, 1, none⟩ (.int .u64 0)).frozen? ⟨G, 2, none⟩ = false := by simp [World.frozen?, show (wr.setCell ⟨G, 1, none⟩ (.int .u64 0)).heap[G]? = _ from HZ1.out.2.1]
                      have HZ2 := Lib.hid (HZ1.out.zero2 hG1)
                      go_wp2_with fail
                      clear k2 f2
                      rw [rounds_succ]
                      go_wp2_with fail
                      have HWs := Lib.hid HZ2.out
                      have HJ := Lib.hid (HI.out.go0 hu.out (by show fa < x; omega) m hM2.out)
                      clear HQ HI hM hM2 HZ1 HZ2
                      generalize ((wr.setCell ⟨G, 1, none⟩ (.int .u64 0)).setCell ⟨G, 2, none⟩ (.int .u64 0)) = ws at *
                      refine wp_region_held_drew (S := fun w' => Hid (w' = ws.drew)) (by kernel_rfl) (show Hid _ from Lib.hid rfl) (fun hHeld => ?_)
                      (try simp only [Act.put, List.getElem_toArray, List.getElem_cons_zero, List.getElem_cons_succ, List.setIfInBounds_toArray, List.set_cons_zero, List.set_cons_succ])
                      refine wpAnyH_take (i := 0) (v := ?_) rfl (by kernel_rfl) (by kernel_rfl) (by kernel_rfl) (fun _ _ _ h => h) (Or.inl ⟨by rfl, ?_⟩) (by assumption) ?_
                      rotate_left
                      · (intro wx hSw; have k0 : wx.cell? ⟨G, 0, none⟩ = some (.int .u64 fa) := by rw [hSw.out]; exact HWs.out.2.1.drew'.cell 0
                         have k1 : wx.cell? ⟨G + 1, 0, none⟩ = some (.int .u64 x) := by rw [hSw.out]; exact HWs.out.2.2.1.drew'.cell 0
                         go_simp; (try with_reducible rfl))
                      (try simp only [Act.put, List.getElem_toArray, List.getElem_cons_zero, List.getElem_cons_succ, List.setIfInBounds_toArray, List.set_cons_zero, List.set_cons_succ])
                      refine wpAnyH_take (i := 1) (v := ?_) rfl (by kernel_rfl) (by kernel_rfl) (by kernel_rfl) (fun _ _ _ h => h) (Or.inl ⟨by rfl, ?_⟩) (by assumption) ?_
                      rotate_left
                      · (intro wx hSw; have k0 : wx.cell? ⟨G, 0, none⟩ = some (.int .u64 fa) := by rw [hSw.out]; exact HWs.out.2.1.drew'.cell 0
                         have k1 : wx.cell? ⟨G + 1, 0, none⟩ = some (.int .u64 x) := by rw [hSw.out]; exact HWs.out.2.2.1.drew'.cell 0
                         go_simp; (try with_reducible rfl))
                      (try simp only [Act.put, List.getElem_toArray, List.getElem_cons_zero, List.getElem_cons_succ, List.setIfInBounds_toArray, List.set_cons_zero, List.set_cons_succ])
                      refine wpAnyH_take (i := 2) (v := ?_) rfl (by kernel_rfl) (by kernel_rfl) (by kernel_rfl) (fun _ _ _ h => h) (Or.inl ⟨by rfl, ?_⟩) (by assumption) ?_
                      rotate_left
                      · (intro wx hSw; have k0 : wx.cell? ⟨G, 0, none⟩ = some (.int .u64 fa) := by rw [hSw.out]; exact HWs.out.2.1.drew'.cell 0
                         have k1 : wx.cell? ⟨G + 1, 0, none⟩ = some (.int .u64 x) := by rw [hSw.out]; exact HWs.out.2.2.1.drew'.cell 0
                         go_simp; (try with_reducible rfl))
                      (try simp only [Act.put, List.getElem_toArray, List.getElem_cons_zero, List.getElem_cons_succ, List.setIfInBounds_toArray, List.set_cons_zero, List.set_cons_succ])
                      refine wpAnyH_take (i := 3) (v := ?_) rfl (by kernel_rfl) (by kernel_rfl) (by kernel_rfl) (fun _ _ _ h => h) (Or.inl ⟨by rfl, ?_⟩) (by assumption) ?_
                      rotate_left
                      · (intro wx hSw; have k0 : wx.cell? ⟨G, 0, none⟩ = some (.int .u64 fa) := by rw [hSw.out]; exact HWs.out.2.1.drew'.cell 0
                         have k1 : wx.cell? ⟨G + 1, 0, none⟩ = some (.int .u64 x) := by rw [hSw.out]; exact HWs.out.2.2.1.drew'.cell 0
                         go_simp; (try with_reducible rfl))
                      (try simp only [Act.put, List.getElem_toArray, List.getElem_cons_zero, List.getElem_cons_succ, List.setIfInBounds_toArray, List.set_cons_zero, List.set_cons_succ])
                      refine wpAnyH_take (i := 4) (v := ?_) rfl (by kernel_rfl) (by kernel_rfl) (by kernel_rfl) (fun _ _ _ h => h) (Or.inl ⟨by rfl, ?_⟩) (by assumption) ?_
                      rotate_left
                      · (intro wx hSw; have k0 : wx.cell? ⟨G, 0, none⟩ = some (.int .u64 fa) := by rw [hSw.out]; exact HWs.out.2.1.drew'.cell 0
                         have k1 : wx.cell? ⟨G + 1, 0, none⟩ = some (.int .u64 x) := by rw [hSw.out]; exact HWs.out.2.2.1.drew'.cell 0
                         go_simp; (try with_reducible rfl))
                      (try simp only [Act.put, List.getElem_toArray, List.getElem_cons_zero, List.getElem_cons_succ, List.setIfInBounds_toArray, List.set_cons_zero, List.set_cons_succ])
                      refine wpAnyH_take (i := 5) (v := ?_) rfl (by kernel_rfl) (by kernel_rfl) (by kernel_rfl) (fun _ _ _ h => h) (Or.inl ⟨by rfl, ?_⟩) (by assumption) ?_
                      rotate_left
                      · (intro wx hSw; have k0 : wx.cell? ⟨G, 0, none⟩ = some (.int .u64 fa) := by rw [hSw.out]; exact HWs.out.2.1.drew'.cell 0
                         have k1 : wx.cell? ⟨G + 1, 0, none⟩ = some (.int .u64 x) := by rw [hSw.out]; exact HWs.out.2.2.1.drew'.cell 0
                         go_simp; (try with_reducible rfl))
                      (try simp only [Act.put, List.getElem_toArray, List.getElem_cons_zero, List.getElem_cons_succ, List.setIfInBounds_toArray, List.set_cons_zero, List.set_cons_succ])
                      refine wpAnyH_take (i := 6) (v := ?_) rfl (by kernel_rfl) (by kernel_rfl) (by kernel_rfl) (fun _ _ _ h => h) (Or.inl ⟨by rfl, ?_⟩) (by assumption) ?_
                      rotate_left
                      · (intro wx hSw; have k0 : wx.cell? ⟨G, 0, none⟩ = some (.int .u64 fa) := by rw [hSw.out]; exact HWs.out.2.1.drew'.cell 0
                         have k1 : wx.cell? ⟨G + 1, 0, none⟩ = some (.int .u64 x) := by rw [hSw.out]; exact HWs.out.2.2.1.drew'.cell 0
                         go_simp; (try with_reducible rfl))
                      (try simp only [Act.put, List.getElem_toArray, List.getElem_cons_zero, List.getElem_cons_succ, List.setIfInBounds_toArray, List.set_cons_zero, List.set_cons_succ])
                      refine wpAnyH_take (i := 7) (v := ?_) rfl (by kernel_rfl) (by kernel_rfl) (by kernel_rfl) (fun _ _ _ h => h) (Or.inl ⟨by rfl, ?_⟩) (by assumption) ?_
                      rotate_left
                      · (intro wx hSw; have k0 : wx.cell? ⟨G, 0, none⟩ = some (.int .u64 fa) := by rw [hSw.out]; exact HWs.out.2.1.drew'.cell 0
                         have k1 : wx.cell? ⟨G + 1, 0, none⟩ = some (.int .u64 x) := by rw [hSw.out]; exact HWs.out.2.2.1.drew'.cell 0
                         go_simp; (try with_reducible rfl))
                      (try simp only [Act.put, List.getElem_toArray, List.getElem_cons_zero, List.getElem_cons_succ, List.setIfInBounds_toArray, List.set_cons_zero, List.set_cons_succ])
                      refine wpAnyH_take (i := 8) (v := ?_) rfl (by kernel_rfl) (by kernel_rfl) (by kernel_rfl) (fun _ _ _ h => h) (Or.inl ⟨by rfl, ?_⟩) (by assumption) ?_
                      rotate_left
                      · (intro wx hSw; have k0 : wx.cell? ⟨G, 0, none⟩ = some (.int .u64 fa) := by rw [hSw.out]; exact HWs.out.2.1.drew'.cell 0
                         have k1 : wx.cell? ⟨G + 1, 0, none⟩ = some (.int .u64 x) := by rw [hSw.out]; exact HWs.out.2.2.1.drew'.cell 0
                         go_simp; (try with_reducible rfl))
                      (try simp only [Act.put, List.getElem_toArray, List.getElem_cons_zero, List.getElem_cons_succ, List.setIfInBounds_toArray, List.set_cons_zero, List.set_cons_succ])
                      refine wpAnyH_take (i := 9) (v := ?_) rfl (by kernel_rfl) (by kernel_rfl) (by kernel_rfl) (fun _ _ _ h => h) (Or.inl ⟨by rfl, ?_⟩) (by assumption) ?_
                      rotate_left
                      · (intro wx hSw; have k0 : wx.cell? ⟨G, 0, none⟩ = some (.int .u64 fa) := by rw [hSw.out]; exact HWs.out.2.1.drew'.cell 0
                         have k1 : wx.cell? ⟨G + 1, 0, none⟩ = some (.int .u64 x) := by rw [hSw.out]; exact HWs.out.2.2.1.drew'.cell 0
                         go_simp; (try with_reducible rfl))
                      (try simp only [Act.put, List.getElem_toArray, List.getElem_cons_zero, List.getElem_cons_succ, List.setIfInBounds_toArray, List.set_cons_zero, List.set_cons_succ])
                      refine wpAnyH_take (i := 10) (v := ?_) rfl (by kernel_rfl) (by kernel_rfl) (by kernel_rfl) (fun _ _ _ h => h) (Or.inl ⟨by rfl, ?_⟩) (by assumption) ?_
                      rotate_left
                      · (intro wx hSw; have k0 : wx.cell? ⟨G, 0, none⟩ = some (.int .u64 fa) := by rw [hSw.out]; exact HWs.out.2.1.drew'.cell 0
                         have k1 : wx.cell? ⟨G + 1, 0, none⟩ = some (.int .u64 x) := by rw [hSw.out]; exact HWs.out.2.2.1.drew'.cell 0
                         go_simp; (try with_reducible rfl))
                      (try simp only [Act.put, List.getElem_toArray, List.getElem_cons_zero, List.getElem_cons_succ, List.setIfInBounds_toArray, List.set_cons_zero, List.set_cons_succ])
                      refine wpAnyH_take (i := 11) (v := ?_) rfl (by kernel_rfl) (by kernel_rfl) (by kernel_rfl) (fun _ _ _ h => h) (Or.inl ⟨by rfl, ?_⟩) (by assumption) ?_
                      rotate_left
                      · (intro wx hSw; have k0 : wx.cell? ⟨G, 0, none⟩ = some (.int .u64 fa) := by rw [hSw.out]; exact HWs.out.2.1.drew'.cell 0
                         have k1 : wx.cell? ⟨G + 1, 0, none⟩ = some (.int .u64 x) := by rw [hSw.out]; exact HWs.out.2.2.1.drew'.cell 0
                         go_simp; (try with_reducible rfl))
                      (try simp only [Act.put, List.getElem_toArray, List.getElem_cons_zero, List.getElem_cons_succ, List.setIfInBounds_toArray, List.set_cons_zero, List.set_cons_succ])
                      refine wpAnyH_take (i := 12) (v := ?_) rfl (by kernel_rfl) (by kernel_rfl) (by kernel_rfl) (fun _ _ _ h => h) (Or.inl ⟨by rfl, ?_⟩) (by assumption) ?_
                      rotate_left
                      · (intro wx hSw; have k0 : wx.cell? ⟨G, 0, none⟩ = some (.int .u64 fa) := by rw [hSw.out]; exact HWs.out.2.1.drew'.cell 0
                         have k1 : wx.cell? ⟨G + 1, 0, none⟩ = some (.int .u64 x) := by rw [hSw.out]; exact HWs.out.2.2.1.drew'.cell 0
                         go_simp; (try with_reducible rfl))
                      (try simp only [Act.put, List.getElem_toArray, List.getElem_cons_zero, List.getElem_cons_succ, List.setIfInBounds_toArray, List.set_cons_zero, List.set_cons_succ])
                      refine wpAnyH_take (i := 13) (v := ?_) rfl (by kernel_rfl) (by kernel_rfl) (by kernel_rfl) (fun _ _ _ h => h) (Or.inl ⟨by rfl, ?_⟩) (by assumption) ?_
                      rotate_left
                      · (intro wx hSw; have k0 : wx.cell? ⟨G, 0, none⟩ = some (.int .u64 fa) := by rw [hSw.out]; exact HWs.out.2.1.drew'.cell 0
                         have k1 : wx.cell? ⟨G + 1, 0, none⟩ = some (.int .u64 x) := by rw [hSw.out]; exact HWs.out.2.2.1.drew'.cell 0
                         go_simp; (try with_reducible rfl))
                      (try simp only [Act.put, List.getElem_toArray, List.getElem_cons_zero, List.getElem_cons_succ, List.setIfInBounds_toArray, List.set_cons_zero, List.set_cons_succ])
                      refine wpAnyH_take (i := 14) (v := ?_) rfl (by kernel_rfl) (by kernel_rfl) (by kernel_rfl) (fun _ _ _ h => h) (Or.inl ⟨by rfl, ?_⟩) (by assumption) ?_
                      rotate_left
                      · (intro wx hSw; have k0 : wx.cell? ⟨G, 0, none⟩ = some (.int .u64 fa) := by rw [hSw.out]; exact HWs.out.2.1.drew'.cell 0
                         have k1 : wx.cell? ⟨G + 1, 0, none⟩ = some (.int .u64 x) := by rw [hSw.out]; exact HWs.out.2.2.1.drew'.cell 0
                         go_simp; (try with_reducible rfl))
                      (try simp only [Act.put, List.getElem_toArray, List.getElem_cons_zero, List.getElem_cons_succ, List.setIfInBounds_toArray, List.set_cons_zero, List.set_cons_succ])
                      refine wpAnyH_take (i := 15) (v := ?_) rfl (by kernel_rfl) (by kernel_rfl) (by kernel_rfl) (fun _ _ _ h => h) (Or.inl ⟨by rfl, ?_⟩) (by assumption) ?_
                      rotate_left
                      · (intro wx hSw; have k0 : wx.cell? ⟨G, 0, none⟩ = some (.int .u64 fa) := by rw [hSw.out]; exact HWs.out.2.1.drew'.cell 0
                         have k1 : wx.cell? ⟨G + 1, 0, none⟩ = some (.int .u64 x) := by rw [hSw.out]; exact HWs.out.2.2.1.drew'.cell 0
                         go_simp; (try with_reducible rfl))
                      (try simp only [Act.put, List.getElem_toArray, List.getElem_cons_zero, List.getElem_cons_succ, List.setIfInBounds_toArray, List.set_cons_zero, List.set_cons_succ])
                      refine wpAnyH_take (i := 16) (v := ?_) rfl (by kernel_rfl) (by kernel_rfl) (by kernel_rfl) (fun _ _ _ h => h) (Or.inl ⟨by rfl, ?_⟩) (by assumption) ?_
                      rotate_left
                      · (intro wx hSw; have k0 : wx.cell? ⟨G, 0, none⟩ = some (.int .u64 fa) := by rw [hSw.out]; exact HWs.out.2.1.drew'.cell 0
                         have k1 : wx.cell? ⟨G + 1, 0, none⟩ = some (.int .u64 x) := by rw [hSw.out]; exact HWs.out.2.2.1.drew'.cell 0
                         go_simp; (try with_reducible rfl))
                      (try simp only [Act.put, List.getElem_toArray, List.getElem_cons_zero, List.getElem_cons_succ, List.setIfInBounds_toArray, List.set_cons_zero, List.set_cons_succ])
                      refine wpAnyH_done (by kernel_rfl) ?_ _
                      have HU := Lib.hid (HWs.out.below (W' := ws.drew) (Below.refl _ _).drew)
                      go_wp2_with fail
                      go_roundw
                      case rel => exact ⟨1, S ++ List.replicate m 2, fa, 0, 0, by omega, by go_num, by simp; omega, HJ, HU⟩
                      case measure => simp [intOf]
                · have h32a : (x - fa ≤ 32) = False := eq_false h32
                  have h32b : (32 < x - fa) = True := eq_true (by omega)
                  go_wp2_with fail
                  refine wp_region_held_drew (S := fun w' => Hid (w' = wr.drew)) (by kernel_rfl) (show Hid _ from Lib.hid rfl) (fun hHeld => ?_)
                  (try simp only [Act.put, List.getElem_toArray, List.getElem_cons_zero, List.getElem_cons_succ, List.setIfInBounds_toArray, List.set_cons_zero, List.set_cons_succ])
                  refine wpAnyH_take (i := 0) (v := ?_) rfl (by kernel_rfl) (by kernel_rfl) (by kernel_rfl) (fun _ _ _ h => h) (Or.inl ⟨by rfl, ?_⟩) (by assumption) ?_
                  rotate_left
                  · (intro wx hSw; have k0 : wx.cell? ⟨G, 0, none⟩ = some (.int .u64 fa) := by rw [hSw.out]; exact HW.out.2.1.drew'.cell 0
                     have k1 : wx.cell? ⟨G + 1, 0, none⟩ = some (.int .u64 x) := by rw [hSw.out]; exact HW.out.2.2.1.drew'.cell 0
                     go_simp; (try with_reducible rfl))
                  (try simp only [Act.put, List.getElem_toArray, List.getElem_cons_zero, List.getElem_cons_succ, List.setIfInBounds_toArray, List.set_cons_zero, List.set_cons_succ])
                  refine wpAnyH_take (i := 1) (v := ?_) rfl (by kernel_rfl) (by kernel_rfl) (by kernel_rfl) (fun _ _ _ h => h) (Or.inl ⟨by rfl, ?_⟩) (by assumption) ?_
                  rotate_left
                  · (intro wx hSw; have k0 : wx.cell? ⟨G, 0, none⟩ = some (.int .u64 fa) := by rw [hSw.out]; exact HW.out.2.1.drew'.cell 0
                     have k1 : wx.cell? ⟨G + 1, 0, none⟩ = some (.int .u64 x) := by rw [hSw.out]; exact HW.out.2.2.1.drew'.cell 0
                     go_simp; (try with_reducible rfl))
                  (try simp only [Act.put, List.getElem_toArray, List.getElem_cons_zero, List.getElem_cons_succ, List.setIfInBounds_toArray, List.set_cons_zero, List.set_cons_succ])
                  refine wpAnyH_take (i := 2) (v := ?_) rfl (by kernel_rfl) (by kernel_rfl) (by kernel_rfl) (fun _ _ _ h => h) (Or.inl ⟨by rfl, ?_⟩) (by assumption) ?_
                  rotate_left
                  · (intro wx hSw; have k0 : wx.cell? ⟨G, 0, none⟩ = some (.int .u64 fa) := by rw [hSw.out]; exact HW.out.2.1.drew'.cell 0
                     have k1 : wx.cell? ⟨G + 1, 0, none⟩ = some (.int .u64 x) := by rw [hSw.out]; exact HW.out.2.2.1.drew'.cell 0
                     go_simp; (try with_reducible rfl))
                  (try simp only [Act.put, List.getElem_toArray, List.getElem_cons_zero, List.getElem_cons_succ, List.setIfInBounds_toArray, List.set_cons_zero, List.set_cons_succ])
                  refine wpAnyH_take (i := 3) (v := ?_) rfl (by kernel_rfl) (by kernel_rfl) (by kernel_rfl) (fun _ _ _ h => h) (Or.inl ⟨by rfl, ?_⟩) (by assumption) ?_
                  rotate_left
                  · (intro wx hSw; have k0 : wx.cell? ⟨G, 0, none⟩ = some (.int .u64 fa) := by rw [hSw.out]; exact HW.out.2.1.drew'.cell 0
                     have k1 : wx.cell? ⟨G + 1, 0, none⟩ = some (.int .u64 x) := by rw [hSw.out]; exact HW.out.2.2.1.drew'.cell 0
                     go_simp; (try with_reducible rfl))
                  (try simp only [Act.put, List.getElem_toArray, List.getElem_cons_zero, List.getElem_cons_succ, List.setIfInBounds_toArray, List.set_cons_zero, List.set_cons_succ])
                  refine wpAnyH_take (i := 4) (v := ?_) rfl (by kernel_rfl) (by kernel_rfl) (by kernel_rfl) (fun _ _ _ h => h) (Or.inl ⟨by rfl, ?_⟩) (by assumption) ?_
                  rotate_left
                  · (intro wx hSw; have k0 : wx.cell? ⟨G, 0, none⟩ = some (.int .u64 fa) := by rw [hSw.out]; exact HW.out.2.1.drew'.cell 0
                     have k1 : wx.cell? ⟨G + 1, 0, none⟩ = some (.int .u64 x) := by rw [hSw.out]; exact HW.out.2.2.1.drew'.cell 0
                     go_simp; (try with_reducible rfl))
                  (try simp only [Act.put, List.getElem_toArray, List.getElem_cons_zero, List.getElem_cons_succ, List.setIfInBounds_toArray, List.set_cons_zero, List.set_cons_succ])
                  refine wpAnyH_take (i := 5) (v := ?_) rfl (by kernel_rfl) (by kernel_rfl) (by kernel_rfl) (fun _ _ _ h => h) (Or.inl ⟨by rfl, ?_⟩) (by assumption) ?_
                  rotate_left
                  · (intro wx hSw; have k0 : wx.cell? ⟨G, 0, none⟩ = some (.int .u64 fa) := by rw [hSw.out]; exact HW.out.2.1.drew'.cell 0
                     have k1 : wx.cell? ⟨G + 1, 0, none⟩ = some (.int .u64 x) := by rw [hSw.out]; exact HW.out.2.2.1.drew'.cell 0
                     go_simp; (try with_reducible rfl))
                  (try simp only [Act.put, List.getElem_toArray, List.getElem_cons_zero, List.getElem_cons_succ, List.setIfInBounds_toArray, List.set_cons_zero, List.set_cons_succ])
                  refine wpAnyH_take (i := 6) (v := ?_) rfl (by kernel_rfl) (by kernel_rfl) (by kernel_rfl) (fun _ _ _ h => h) (Or.inl ⟨by rfl, ?_⟩) (by assumption) ?_
                  rotate_left
                  · (intro wx hSw; have k0 : wx.cell? ⟨G, 0, none⟩ = some (.int .u64 fa) := by rw [hSw.out]; exact HW.out.2.1.drew'.cell 0
                     have k1 : wx.cell? ⟨G + 1, 0, none⟩ = some (.int .u64 x) := by rw [hSw.out]; exact HW.out.2.2.1.drew'.cell 0
                     go_simp; (try with_reducible rfl))
                  (try simp only [Act.put, List.getElem_toArray, List.getElem_cons_zero, List.getElem_cons_succ, List.setIfInBounds_toArray, List.set_cons_zero, List.set_cons_succ])
                  refine wpAnyH_take (i := 7) (v := ?_) rfl (by kernel_rfl) (by kernel_rfl) (by kernel_rfl) (fun _ _ _ h => h) (Or.inl ⟨by rfl, ?_⟩) (by assumption) ?_
                  rotate_left
                  · (intro wx hSw; have k0 : wx.cell? ⟨G, 0, none⟩ = some (.int .u64 fa) := by rw [hSw.out]; exact HW.out.2.1.drew'.cell 0
                     have k1 : wx.cell? ⟨G + 1, 0, none⟩ = some (.int .u64 x) := by rw [hSw.out]; exact HW.out.2.2.1.drew'.cell 0
                     go_simp; (try with_reducible rfl))
                  (try simp only [Act.put, List.getElem_toArray, List.getElem_cons_zero, List.getElem_cons_succ, List.setIfInBounds_toArray, List.set_cons_zero, List.set_cons_succ])
                  refine wpAnyH_take (i := 8) (v := ?_) rfl (by kernel_rfl) (by kernel_rfl) (by kernel_rfl) (fun _ _ _ h => h) (Or.inl ⟨by rfl, ?_⟩) (by assumption) ?_
                  rotate_left
                  · (intro wx hSw; have k0 : wx.cell? ⟨G, 0, none⟩ = some (.int .u64 fa) := by rw [hSw.out]; exact HW.out.2.1.drew'.cell 0
                     have k1 : wx.cell? ⟨G + 1, 0, none⟩ = some (.int .u64 x) := by rw [hSw.out]; exact HW.out.2.2.1.drew'.cell 0
                     go_simp; (try with_reducible rfl))
                  (try simp only [Act.put, List.getElem_toArray, List.getElem_cons_zero, List.getElem_cons_succ, List.setIfInBounds_toArray, List.set_cons_zero, List.set_cons_succ])
                  refine wpAnyH_take (i := 9) (v := ?_) rfl (by kernel_rfl) (by kernel_rfl) (by kernel_rfl) (fun _ _ _ h => h) (Or.inl ⟨by rfl, ?_⟩) (by assumption) ?_
                  rotate_left
                  · (intro wx hSw; have k0 : wx.cell? ⟨G, 0, none⟩ = some (.int .u64 fa) := by rw [hSw.out]; exact HW.out.2.1.drew'.cell 0
                     have k1 : wx.cell? ⟨G + 1, 0, none⟩ = some (.int .u64 x) := by rw [hSw.out]; exact HW.out.2.2.1.drew'.cell 0
                     go_simp; (try with_reducible rfl))
                  (try simp only [Act.put, List.getElem_toArray, List.getElem_cons_zero, List.getElem_cons_succ, List.setIfInBounds_toArray, List.set_cons_zero, List.set_cons_succ])
                  refine wpAnyH_take (i := 10) (v := ?_) rfl (by kernel_rfl) (by kernel_rfl) (by kernel_rfl) (fun _ _ _ h => h) (Or.inl ⟨by rfl, ?_⟩) (by assumption) ?_
                  rotate_left
                  · (intro wx hSw; have k0 : wx.cell? ⟨G, 0, none⟩ = some (.int .u64 fa) := by rw [hSw.out]; exact HW.out.2.1.drew'.cell 0
                     have k1 : wx.cell? ⟨G + 1, 0, none⟩ = some (.int .u64 x) := by rw [hSw.out]; exact HW.out.2.2.1.drew'.cell 0
                     go_simp; (try with_reducible rfl))
                  (try simp only [Act.put, List.getElem_toArray, List.getElem_cons_zero, List.getElem_cons_succ, List.setIfInBounds_toArray, List.set_cons_zero, List.set_cons_succ])
                  refine wpAnyH_take (i := 11) (v := ?_) rfl (by kernel_rfl) (by kernel_rfl) (by kernel_rfl) (fun _ _ _ h => h) (Or.inl ⟨by rfl, ?_⟩) (by assumption) ?_
                  rotate_left
                  · (intro wx hSw; have k0 : wx.cell? ⟨G, 0, none⟩ = some (.int .u64 fa) := by rw [hSw.out]; exact HW.out.2.1.drew'.cell 0
                     have k1 : wx.cell? ⟨G + 1, 0, none⟩ = some (.int .u64 x) := by rw [hSw.out]; exact HW.out.2.2.1.drew'.cell 0
                     go_simp; (try with_reducible rfl))
                  (try simp only [Act.put, List.getElem_toArray, List.getElem_cons_zero, List.getElem_cons_succ, List.setIfInBounds_toArray, List.set_cons_zero, List.set_cons_succ])
                  refine wpAnyH_take (i := 12) (v := ?_) rfl (by kernel_rfl) (by kernel_rfl) (by kernel_rfl) (fun _ _ _ h => h) (Or.inl ⟨by rfl, ?_⟩) (by assumption) ?_
                  rotate_left
                  · (intro wx hSw; have k0 : wx.cell? ⟨G, 0, none⟩ = some (.int .u64 fa) := by rw [hSw.out]; exact HW.out.2.1.drew'.cell 0
                     have k1 : wx.cell? ⟨G + 1, 0, none⟩ = some (.int .u64 x) := by rw [hSw.out]; exact HW.out.2.2.1.drew'.cell 0
                     go_simp; (try with_reducible rfl))
                  (try simp only [Act.put, List.getElem_toArray, List.getElem_cons_zero, List.getElem_cons_succ, List.setIfInBounds_toArray, List.set_cons_zero, List.set_cons_succ])
                  refine wpAnyH_take (i := 13) (v := ?_) rfl (by kernel_rfl) (by kernel_rfl) (by kernel_rfl) (fun _ _ _ h => h) (Or.inl ⟨by rfl, ?_⟩) (by assumption) ?_
                  rotate_left
                  · (intro wx hSw; have k0 : wx.cell? ⟨G, 0, none⟩ = some (.int .u64 fa) := by rw [hSw.out]; exact HW.out.2.1.drew'.cell 0
                     have k1 : wx.cell? ⟨G + 1, 0, none⟩ = some (.int .u64 x) := by rw [hSw.out]; exact HW.out.2.2.1.drew'.cell 0
                     go_simp; (try with_reducible rfl))
                  (try simp only [Act.put, List.getElem_toArray, List.getElem_cons_zero, List.getElem_cons_succ, List.setIfInBounds_toArray, List.set_cons_zero, List.set_cons_succ])
                  refine wpAnyH_take (i := 14) (v := ?_) rfl (by kernel_rfl) (by kernel_rfl) (by kernel_rfl) (fun _ _ _ h => h) (Or.inl ⟨by rfl, ?_⟩) (by assumption) ?_
                  rotate_left
                  · (intro wx hSw; have k0 : wx.cell? ⟨G, 0, none⟩ = some (.int .u64 fa) := by rw [hSw.out]; exact HW.out.2.1.drew'.cell 0
                     have k1 : wx.cell? ⟨G + 1, 0, none⟩ = some (.int .u64 x) := by rw [hSw.out]; exact HW.out.2.2.1.drew'.cell 0
                     go_simp; (try with_reducible rfl))
                  (try simp only [Act.put, List.getElem_toArray, List.getElem_cons_zero, List.getElem_cons_succ, List.setIfInBounds_toArray, List.set_cons_zero, List.set_cons_succ])
                  refine wpAnyH_take (i := 15) (v := ?_) rfl (by kernel_rfl) (by kernel_rfl) (by kernel_rfl) (fun _ _ _ h => h) (Or.inl ⟨by rfl, ?_⟩) (by assumption) ?_
                  rotate_left
                  · (intro wx hSw; have k0 : wx.cell? ⟨G, 0, none⟩ = some (.int .u64 fa) := by rw [hSw.out]; exact HW.out.2.1.drew'.cell 0
                     have k1 : wx.cell? ⟨G + 1, 0, none⟩ = some (.int .u64 x) := by rw [hSw.out]; exact HW.out.2.2.1.drew'.cell 0
                     go_simp; (try with_reducible rfl))
                  (try simp only [Act.put, List.getElem_toArray, List.getElem_cons_zero, List.getElem_cons_succ, List.setIfInBounds_toArray, List.set_cons_zero, List.set_cons_succ])
                  refine wpAnyH_take (i := 16) (v := ?_) rfl (by kernel_rfl) (by kernel_rfl) (by kernel_rfl) (fun _ _ _ h => h) (Or.inl ⟨by rfl, ?_⟩) (by assumption) ?_
                  rotate_left
                  · (intro wx hSw; have k0 : wx.cell? ⟨G, 0, none⟩ = some (.int .u64 fa) := by rw [hSw.out]; exact HW.out.2.1.drew'.cell 0
                     have k1 : wx.cell? ⟨G + 1, 0, none⟩ = some (.int .u64 x) := by rw [hSw.out]; exact HW.out.2.2.1.drew'.cell 0
                     go_simp; (try with_reducible rfl))
                  (try simp only [Act.put, List.getElem_toArray, List.getElem_cons_zero, List.getElem_cons_succ, List.setIfInBounds_toArray, List.set_cons_zero, List.set_cons_succ])
                  refine wpAnyH_done (by kernel_rfl) ?_ _
                  have HV := Lib.hid (HW.out.below (W' := wr.drew) (Below.refl _ _).drew)
                  go_wp2_with fail
                  refine wp_region_held_drew (S := fun w' => Hid (w' = wr.drew.drew)) (by kernel_rfl) (show Hid _ from Lib.hid rfl) (fun hHeld => ?_)
                  (try simp only [Act.put, List.getElem_toArray, List.getElem_cons_zero, List.getElem_cons_succ, List.setIfInBounds_toArray, List.set_cons_zero, List.set_cons_succ])
                  refine wpAnyH_take (i := 0) (v := ?_) rfl (by kernel_rfl) (by kernel_rfl) (by kernel_rfl) (fun _ _ _ h => h) (Or.inl ⟨by rfl, ?_⟩) (by assumption) ?_
                  rotate_left
                  · (intro wx hSw; have k0 : wx.cell? ⟨G, 0, none⟩ = some (.int .u64 fa) := by rw [hSw.out]; exact HV.out.2.1.drew'.cell 0
                     have k1 : wx.cell? ⟨G + 1, 0, none⟩ = some (.int .u64 x) := by rw [hSw.out]; exact HV.out.2.2.1.drew'.cell 0
                     go_simp; (try with_reducible rfl))
                  (try simp only [Act.put, List.getElem_toArray, List.getElem_cons_zero, List.getElem_cons_succ, List.setIfInBounds_toArray, List.set_cons_zero, List.set_cons_succ])
                  refine wpAnyH_take (i := 1) (v := ?_) rfl (by kernel_rfl) (by kernel_rfl) (by kernel_rfl) (fun _ _ _ h => h) (Or.inl ⟨by rfl, ?_⟩) (by assumption) ?_
                  rotate_left
                  · (intro wx hSw; have k0 : wx.cell? ⟨G, 0, none⟩ = some (.int .u64 fa) := by rw [hSw.out]; exact HV.out.2.1.drew'.cell 0
                     have k1 : wx.cell? ⟨G + 1, 0, none⟩ = some (.int .u64 x) := by rw [hSw.out]; exact HV.out.2.2.1.drew'.cell 0
                     go_simp; (try with_reducible rfl))
                  (try simp only [Act.put, List.getElem_toArray, List.getElem_cons_zero, List.getElem_cons_succ, List.setIfInBounds_toArray, List.set_cons_zero, List.set_cons_succ])
                  refine wpAnyH_take (i := 2) (v := ?_) rfl (by kernel_rfl) (by kernel_rfl) (by kernel_rfl) (fun _ _ _ h => h) (Or.inl ⟨by rfl, ?_⟩) (by assumption) ?_
                  rotate_left
                  · (intro wx hSw; have k0 : wx.cell? ⟨G, 0, none⟩ = some (.int .u64 fa) := by rw [hSw.out]; exact HV.out.2.1.drew'.cell 0
                     have k1 : wx.cell? ⟨G + 1, 0, none⟩ = some (.int .u64 x) := by rw [hSw.out]; exact HV.out.2.2.1.drew'.cell 0
                     go_simp; (try with_reducible rfl))
                  (try simp only [Act.put, List.getElem_toArray, List.getElem_cons_zero, List.getElem_cons_succ, List.setIfInBounds_toArray, List.set_cons_zero, List.set_cons_succ])
                  refine wpAnyH_take (i := 3) (v := ?_) rfl (by kernel_rfl) (by kernel_rfl) (by kernel_rfl) (fun _ _ _ h => h) (Or.inl ⟨by rfl, ?_⟩) (by assumption) ?_
                  rotate_left
                  · (intro wx hSw; have k0 : wx.cell? ⟨G, 0, none⟩ = some (.int .u64 fa) := by rw [hSw.out]; exact HV.out.2.1.drew'.cell 0
                     have k1 : wx.cell? ⟨G + 1, 0, none⟩ = some (.int .u64 x) := by rw [hSw.out]; exact HV.out.2.2.1.drew'.cell 0
                     go_simp; (try with_reducible rfl))
                  (try simp only [Act.put, List.getElem_toArray, List.getElem_cons_zero, List.getElem_cons_succ, List.setIfInBounds_toArray, List.set_cons_zero, List.set_cons_succ])
                  refine wpAnyH_take (i := 4) (v := ?_) rfl (by kernel_rfl) (by kernel_rfl) (by kernel_rfl) (fun _ _ _ h => h) (Or.inl ⟨by rfl, ?_⟩) (by assumption) ?_
                  rotate_left
                  · (intro wx hSw; have k0 : wx.cell? ⟨G, 0, none⟩ = some (.int .u64 fa) := by rw [hSw.out]; exact HV.out.2.1.drew'.cell 0
                     have k1 : wx.cell? ⟨G + 1, 0, none⟩ = some (.int .u64 x) := by rw [hSw.out]; exact HV.out.2.2.1.drew'.cell 0
                     go_simp; (try with_reducible rfl))
                  (try simp only [Act.put, List.getElem_toArray, List.getElem_cons_zero, List.getElem_cons_succ, List.setIfInBounds_toArray, List.set_cons_zero, List.set_cons_succ])
                  refine wpAnyH_take (i := 5) (v := ?_) rfl (by kernel_rfl) (by kernel_rfl) (by kernel_rfl) (fun _ _ _ h => h) (Or.inl ⟨by rfl, ?_⟩) (by assumption) ?_
                  rotate_left
                  · (intro wx hSw; have k0 : wx.cell? ⟨G, 0, none⟩ = some (.int .u64 fa) := by rw [hSw.out]; exact HV.out.2.1.drew'.cell 0
                     have k1 : wx.cell? ⟨G + 1, 0, none⟩ = some (.int .u64 x) := by rw [hSw.out]; exact HV.out.2.2.1.drew'.cell 0
                     go_simp; (try with_reducible rfl))
                  (try simp only [Act.put, List.getElem_toArray, List.getElem_cons_zero, List.getElem_cons_succ, List.setIfInBounds_toArray, List.set_cons_zero, List.set_cons_succ])
                  refine wpAnyH_take (i := 6) (v := ?_) rfl (by kernel_rfl) (by kernel_rfl) (by kernel_rfl) (fun _ _ _ h => h) (Or.inl ⟨by rfl, ?_⟩) (by assumption) ?_
                  rotate_left
                  · (intro wx hSw; have k0 : wx.cell? ⟨G, 0, none⟩ = some (.int .u64 fa) := by rw [hSw.out]; exact HV.out.2.1.drew'.cell 0
                     have k1 : wx.cell? ⟨G + 1, 0, none⟩ = some (.int .u64 x) := by rw [hSw.out]; exact HV.out.2.2.1.drew'.cell 0
                     go_simp; (try with_reducible rfl))
                  (try simp only [Act.put, List.getElem_toArray, List.getElem_cons_zero, List.getElem_cons_succ, List.setIfInBounds_toArray, List.set_cons_zero, List.set_cons_succ])
                  refine wpAnyH_take (i := 7) (v := ?_) rfl (by kernel_rfl) (by kernel_rfl) (by kernel_rfl) (fun _ _ _ h => h) (Or.inl ⟨by rfl, ?_⟩) (by assumption) ?_
                  rotate_left
                  · (intro wx hSw; have k0 : wx.cell? ⟨G, 0, none⟩ = some (.int .u64 fa) := by rw [hSw.out]; exact HV.out.2.1.drew'.cell 0
                     have k1 : wx.cell? ⟨G + 1, 0, none⟩ = some (.int .u64 x) := by rw [hSw.out]; exact HV.out.2.2.1.drew'.cell 0
                     go_simp; (try with_reducible rfl))
                  (try simp only [Act.put, List.getElem_toArray, List.getElem_cons_zero, List.getElem_cons_succ, List.setIfInBounds_toArray, List.set_cons_zero, List.set_cons_succ])
                  refine wpAnyH_take (i := 8) (v := ?_) rfl (by kernel_rfl) (by kernel_rfl) (by kernel_rfl) (fun _ _ _ h => h) (Or.inl ⟨by rfl, ?_⟩) (by assumption) ?_
                  rotate_left
                  · (intro wx hSw; have k0 : wx.cell? ⟨G, 0, none⟩ = some (.int .u64 fa) := by rw [hSw.out]; exact HV.out.2.1.drew'.cell 0
                     have k1 : wx.cell? ⟨G + 1, 0, none⟩ = some (.int .u64 x) := by rw [hSw.out]; exact HV.out.2.2.1.drew'.cell 0
                     go_simp; (try with_reducible rfl))
                  (try simp only [Act.put, List.getElem_toArray, List.getElem_cons_zero, List.getElem_cons_succ, List.setIfInBounds_toArray, List.set_cons_zero, List.set_cons_succ])
                  refine wpAnyH_take (i := 9) (v := ?_) rfl (by kernel_rfl) (by kernel_rfl) (by kernel_rfl) (fun _ _ _ h => h) (Or.inl ⟨by rfl, ?_⟩) (by assumption) ?_
                  rotate_left
                  · (intro wx hSw; have k0 : wx.cell? ⟨G, 0, none⟩ = some (.int .u64 fa) := by rw [hSw.out]; exact HV.out.2.1.drew'.cell 0
                     have k1 : wx.cell? ⟨G + 1, 0, none⟩ = some (.int .u64 x) := by rw [hSw.out]; exact HV.out.2.2.1.drew'.cell 0
                     go_simp; (try with_reducible rfl))
                  (try simp only [Act.put, List.getElem_toArray, List.getElem_cons_zero, List.getElem_cons_succ, List.setIfInBounds_toArray, List.set_cons_zero, List.set_cons_succ])
                  refine wpAnyH_take (i := 10) (v := ?_) rfl (by kernel_rfl) (by kernel_rfl) (by kernel_rfl) (fun _ _ _ h => h) (Or.inl ⟨by rfl, ?_⟩) (by assumption) ?_
                  rotate_left
                  · (intro wx hSw; have k0 : wx.cell? ⟨G, 0, none⟩ = some (.int .u64 fa) := by rw [hSw.out]; exact HV.out.2.1.drew'.cell 0
                     have k1 : wx.cell? ⟨G + 1, 0, none⟩ = some (.int .u64 x) := by rw [hSw.out]; exact HV.out.2.2.1.drew'.cell 0
                     go_simp; (try with_reducible rfl))
                  (try simp only [Act.put, List.getElem_toArray, List.getElem_cons_zero, List.getElem_cons_succ, List.setIfInBounds_toArray, List.set_cons_zero, List.set_cons_succ])
                  refine wpAnyH_take (i := 11) (v := ?_) rfl (by kernel_rfl) (by kernel_rfl) (by kernel_rfl) (fun _ _ _ h => h) (Or.inl ⟨by rfl, ?_⟩) (by assumption) ?_
                  rotate_left
                  · (intro wx hSw; have k0 : wx.cell? ⟨G, 0, none⟩ = some (.int .u64 fa) := by rw [hSw.out]; exact HV.out.2.1.drew'.cell 0
                     have k1 : wx.cell? ⟨G + 1, 0, none⟩ = some (.int .u64 x) := by rw [hSw.out]; exact HV.out.2.2.1.drew'.cell 0
                     go_simp; (try with_reducible rfl))
                  (try simp only [Act.put, List.getElem_toArray, List.getElem_cons_zero, List.getElem_cons_succ, List.setIfInBounds_toArray, List.set_cons_zero, List.set_cons_succ])
                  refine wpAnyH_take (i := 12) (v := ?_) rfl (by kernel_rfl) (by kernel_rfl) (by kernel_rfl) (fun _ _ _ h => h) (Or.inl ⟨by rfl, ?_⟩) (by assumption) ?_
                  rotate_left
                  · (intro wx hSw; have k0 : wx.cell? ⟨G, 0, none⟩ = some (.int .u64 fa) := by rw [hSw.out]; exact HV.out.2.1.drew'.cell 0
                     have k1 : wx.cell? ⟨G + 1, 0, none⟩ = some (.int .u64 x) := by rw [hSw.out]; exact HV.out.2.2.1.drew'.cell 0
                     go_simp; (try with_reducible rfl))
                  (try simp only [Act.put, List.getElem_toArray, List.getElem_cons_zero, List.getElem_cons_succ, List.setIfInBounds_toArray, List.set_cons_zero, List.set_cons_succ])
                  refine wpAnyH_take (i := 13) (v := ?_) rfl (by kernel_rfl) (by kernel_rfl) (by kernel_rfl) (fun _ _ _ h => h) (Or.inl ⟨by rfl, ?_⟩) (by assumption) ?_
                  rotate_left
                  · (intro wx hSw; have k0 : wx.cell? ⟨G, 0, none⟩ = some (.int .u64 fa) := by rw [hSw.out]; exact HV.out.2.1.drew'.cell 0
                     have k1 : wx.cell? ⟨G + 1, 0, none⟩ = some (.int .u64 x) := by rw [hSw.out]; exact HV.out.2.2.1.drew'.cell 0
                     go_simp; (try with_reducible rfl))
                  (try simp only [Act.put, List.getElem_toArray, List.getElem_cons_zero, List.getElem_cons_succ, List.setIfInBounds_toArray, List.set_cons_zero, List.set_cons_succ])
                  refine wpAnyH_take (i := 14) (v := ?_) rfl (by kernel_rfl) (by kernel_rfl) (by kernel_rfl) (fun _ _ _ h => h) (Or.inl ⟨by rfl, ?_⟩) (by assumption) ?_
                  rotate_left
                  · (intro wx hSw; have k0 : wx.cell? ⟨G, 0, none⟩ = some (.int .u64 fa) := by rw [hSw.out]; exact HV.out.2.1.drew'.cell 0
                     have k1 : wx.cell? ⟨G + 1, 0, none⟩ = some (.int .u64 x) := by rw [hSw.out]; exact HV.out.2.2.1.drew'.cell 0
                     go_simp; (try with_reducible rfl))
                  (try simp only [Act.put, List.getElem_toArray, List.getElem_cons_zero, List.getElem_cons_succ, List.setIfInBounds_toArray, List.set_cons_zero, List.set_cons_succ])
                  refine wpAnyH_take (i := 15) (v := ?_) rfl (by kernel_rfl) (by kernel_rfl) (by kernel_rfl) (fun _ _ _ h => h) (Or.inl ⟨by rfl, ?_⟩) (by assumption) ?_
                  rotate_left
                  · (intro wx hSw; have k0 : wx.cell? ⟨G, 0, none⟩ = some (.int .u64 fa) := by rw [hSw.out]; exact HV.out.2.1.drew'.cell 0
                     have k1 : wx.cell? ⟨G + 1, 0, none⟩ = some (.int .u64 x) := by rw [hSw.out]; exact HV.out.2.2.1.drew'.cell 0
                     go_simp; (try with_reducible rfl))
                  (try simp only [Act.put, List.getElem_toArray, List.getElem_cons_zero, List.getElem_cons_succ, List.setIfInBounds_toArray, List.set_cons_zero, List.set_cons_succ])
                  refine wpAnyH_take (i := 16) (v := ?_) rfl (by kernel_rfl) (by kernel_rfl) (by kernel_rfl) (fun _ _ _ h => h) (Or.inl ⟨by rfl, ?_⟩) (by assumption) ?_
                  rotate_left
                  · (intro wx hSw; have k0 : wx.cell? ⟨G, 0, none⟩ = some (.int .u64 fa) := by rw [hSw.out]; exact HV.out.2.1.drew'.cell 0
                     have k1 : wx.cell? ⟨G + 1, 0, none⟩ = some (.int .u64 x) := by rw [hSw.out]; exact HV.out.2.2.1.drew'.cell 0
                     go_simp; (try with_reducible rfl))
                  (try simp only [Act.put, List.getElem_toArray, List.getElem_cons_zero, List.getElem_cons_succ, List.setIfInBounds_toArray, List.set_cons_zero, List.set_cons_succ])
                  refine wpAnyH_done (by kernel_rfl) ?_ _
                  go_wp2_with fail
                  go_ret
                  exact ⟨rfl, HV.out.2.2.2.2.2.drew⟩
              · have hlt2 : (fa < x) = False := eq_false hlt
                go_wp2_with fail
                refine wp_region_held_drew (S := fun w' => Hid (w' = wr.drew)) (by kernel_rfl) (show Hid _ from Lib.hid rfl) (fun hHeld => ?_)
                (try simp only [Act.put, List.getElem_toArray, List.getElem_cons_zero, List.getElem_cons_succ, List.setIfInBounds_toArray, List.set_cons_zero, List.set_cons_succ])
                refine wpAnyH_take (i := 0) (v := ?_) rfl (by kernel_rfl) (by kernel_rfl) (by kernel_rfl) (fun _ _ _ h => h) (Or.inl ⟨by rfl, ?_⟩) (by assumption) ?_
                rotate_left
                · (intro wx hSw; have k0 : wx.cell? ⟨G, 0, none⟩ = some (.int .u64 fa) := by rw [hSw.out]; exact HW.out.2.1.drew'.cell 0
                   have k1 : wx.cell? ⟨G + 1, 0, none⟩ = some (.int .u64 x) := by rw [hSw.out]; exact HW.out.2.2.1.drew'.cell 0
                   go_simp; (try with_reducible rfl))
                (try simp only [Act.put, List.getElem_toArray, List.getElem_cons_zero, List.getElem_cons_succ, List.setIfInBounds_toArray, List.set_cons_zero, List.set_cons_succ])
                refine wpAnyH_take (i := 1) (v := ?_) rfl (by kernel_rfl) (by kernel_rfl) (by kernel_rfl) (fun _ _ _ h => h) (Or.inl ⟨by rfl, ?_⟩) (by assumption) ?_
                rotate_left
                · (intro wx hSw; have k0 : wx.cell? ⟨G, 0, none⟩ = some (.int .u64 fa) := by rw [hSw.out]; exact HW.out.2.1.drew'.cell 0
                   have k1 : wx.cell? ⟨G + 1, 0, none⟩ = some (.int .u64 x) := by rw [hSw.out]; exact HW.out.2.2.1.drew'.cell 0
                   go_simp; (try with_reducible rfl))
                (try simp only [Act.put, List.getElem_toArray, List.getElem_cons_zero, List.getElem_cons_succ, List.setIfInBounds_toArray, List.set_cons_zero, List.set_cons_succ])
                refine wpAnyH_take (i := 2) (v := ?_) rfl (by kernel_rfl) (by kernel_rfl) (by kernel_rfl) (fun _ _ _ h => h) (Or.inl ⟨by rfl, ?_⟩) (by assumption) ?_
                rotate_left
                · (intro wx hSw; have k0 : wx.cell? ⟨G, 0, none⟩ = some (.int .u64 fa) := by rw [hSw.out]; exact HW.out.2.1.drew'.cell 0
                   have k1 : wx.cell? ⟨G + 1, 0, none⟩ = some (.int .u64 x) := by rw [hSw.out]; exact HW.out.2.2.1.drew'.cell 0
                   go_simp; (try with_reducible rfl))
                (try simp only [Act.put, List.getElem_toArray, List.getElem_cons_zero, List.getElem_cons_succ, List.setIfInBounds_toArray, List.set_cons_zero, List.set_cons_succ])
                refine wpAnyH_take (i := 3) (v := ?_) rfl (by kernel_rfl) (by kernel_rfl) (by kernel_rfl) (fun _ _ _ h => h) (Or.inl ⟨by rfl, ?_⟩) (by assumption) ?_
                rotate_left
                · (intro wx hSw; have k0 : wx.cell? ⟨G, 0, none⟩ = some (.int .u64 fa) := by rw [hSw.out]; exact HW.out.2.1.drew'.cell 0
                   have k1 : wx.cell? ⟨G + 1, 0, none⟩ = some (.int .u64 x) := by rw [hSw.out]; exact HW.out.2.2.1.drew'.cell 0
                   go_simp; (try with_reducible rfl))
                (try simp only [Act.put, List.getElem_toArray, List.getElem_cons_zero, List.getElem_cons_succ, List.setIfInBounds_toArray, List.set_cons_zero, List.set_cons_succ])
                refine wpAnyH_take (i := 4) (v := ?_) rfl (by kernel_rfl) (by kernel_rfl) (by kernel_rfl) (fun _ _ _ h => h) (Or.inl ⟨by rfl, ?_⟩) (by assumption) ?_
                rotate_left
                · (intro wx hSw; have k0 : wx.cell? ⟨G, 0, none⟩ = some (.int .u64 fa) := by rw [hSw.out]; exact HW.out.2.1.drew'.cell 0
                   have k1 : wx.cell? ⟨G + 1, 0, none⟩ = some (.int .u64 x) := by rw [hSw.out]; exact HW.out.2.2.1.drew'.cell 0
                   go_simp; (try with_reducible rfl))
                (try simp only [Act.put, List.getElem_toArray, List.getElem_cons_zero, List.getElem_cons_succ, List.setIfInBounds_toArray, List.set_cons_zero, List.set_cons_succ])
                refine wpAnyH_take (i := 5) (v := ?_) rfl (by kernel_rfl) (by kernel_rfl) (by kernel_rfl) (fun _ _ _ h => h) (Or.inl ⟨by rfl, ?_⟩) (by assumption) ?_
                rotate_left
                · (intro wx hSw; have k0 : wx.cell? ⟨G, 0, none⟩ = some (.int .u64 fa) := by rw [hSw.out]; exact HW.out.2.1.drew'.cell 0
                   have k1 : wx.cell? ⟨G + 1, 0, none⟩ = some (.int .u64 x) := by rw [hSw.out]; exact HW.out.2.2.1.drew'.cell 0
                   go_simp; (try with_reducible rfl))
                (try simp only [Act.put, List.getElem_toArray, List.getElem_cons_zero, List.getElem_cons_succ, List.setIfInBounds_toArray, List.set_cons_zero, List.set_cons_succ])
                refine wpAnyH_take (i := 6) (v := ?_) rfl (by kernel_rfl) (by kernel_rfl) (by kernel_rfl) (fun _ _ _ h => h) (Or.inl ⟨by rfl, ?_⟩) (by assumption) ?_
                rotate_left
                · (intro wx hSw; have k0 : wx.cell? ⟨G, 0, none⟩ = some (.int .u64 fa) := by rw [hSw.out]; exact HW.out.2.1.drew'.cell 0
                   have k1 : wx.cell? ⟨G + 1, 0, none⟩ = some (.int .u64 x) := by rw [hSw.out]; exact HW.out.2.2.1.drew'.cell 0
                   go_simp; (try with_reducible rfl))
                (try simp only [Act.put, List.getElem_toArray, List.getElem_cons_zero, List.getElem_cons_succ, List.setIfInBounds_toArray, List.set_cons_zero, List.set_cons_succ])
                refine wpAnyH_take (i := 7) (v := ?_) rfl (by kernel_rfl) (by kernel_rfl) (by kernel_rfl) (fun _ _ _ h => h) (Or.inl ⟨by rfl, ?_⟩) (by assumption) ?_
                rotate_left
                · (intro wx hSw; have k0 : wx.cell? ⟨G, 0, none⟩ = some (.int .u64 fa) := by rw [hSw.out]; exact HW.out.2.1.drew'.cell 0
                   have k1 : wx.cell? ⟨G + 1, 0, none⟩ = some (.int .u64 x) := by rw [hSw.out]; exact HW.out.2.2.1.drew'.cell 0
                   go_simp; (try with_reducible rfl))
                (try simp only [Act.put, List.getElem_toArray, List.getElem_cons_zero, List.getElem_cons_succ, List.setIfInBounds_toArray, List.set_cons_zero, List.set_cons_succ])
                refine wpAnyH_take (i := 8) (v := undef) rfl (by kernel_rfl) (by kernel_rfl) (by kernel_rfl) (fun _ _ _ h => h) (Or.inr ⟨by rfl, rfl⟩) (by assumption) ?_
                (try simp only [Act.put, List.getElem_toArray, List.getElem_cons_zero, List.getElem_cons_succ, List.setIfInBounds_toArray, List.set_cons_zero, List.set_cons_succ])
                refine wpAnyH_take (i := 9) (v := undef) rfl (by kernel_rfl) (by kernel_rfl) (by kernel_rfl) (fun _ _ _ h => h) (Or.inr ⟨by rfl, rfl⟩) (by assumption) ?_
                (try simp only [Act.put, List.getElem_toArray, List.getElem_cons_zero, List.getElem_cons_succ, List.setIfInBounds_toArray, List.set_cons_zero, List.set_cons_succ])
                refine wpAnyH_take (i := 10) (v := undef) rfl (by kernel_rfl) (by kernel_rfl) (by kernel_rfl) (fun _ _ _ h => h) (Or.inr ⟨by rfl, rfl⟩) (by assumption) ?_
                (try simp only [Act.put, List.getElem_toArray, List.getElem_cons_zero, List.getElem_cons_succ, List.setIfInBounds_toArray, List.set_cons_zero, List.set_cons_succ])
                refine wpAnyH_take (i := 11) (v := undef) rfl (by kernel_rfl) (by kernel_rfl) (by kernel_rfl) (fun _ _ _ h => h) (Or.inr ⟨by rfl, rfl⟩) (by assumption) ?_
                (try simp only [Act.put, List.getElem_toArray, List.getElem_cons_zero, List.getElem_cons_succ, List.setIfInBounds_toArray, List.set_cons_zero, List.set_cons_succ])
                refine wpAnyH_take (i := 12) (v := undef) rfl (by kernel_rfl) (by kernel_rfl) (by kernel_rfl) (fun _ _ _ h => h) (Or.inr ⟨by rfl, rfl⟩) (by assumption) ?_
                (try simp only [Act.put, List.getElem_toArray, List.getElem_cons_zero, List.getElem_cons_succ, List.setIfInBounds_toArray, List.set_cons_zero, List.set_cons_succ])
                refine wpAnyH_take (i := 13) (v := undef) rfl (by kernel_rfl) (by kernel_rfl) (by kernel_rfl) (fun _ _ _ h => h) (Or.inr ⟨by rfl, rfl⟩) (by assumption) ?_
                (try simp only [Act.put, List.getElem_toArray, List.getElem_cons_zero, List.getElem_cons_succ, List.setIfInBounds_toArray, List.set_cons_zero, List.set_cons_succ])
                refine wpAnyH_take (i := 14) (v := undef) rfl (by kernel_rfl) (by kernel_rfl) (by kernel_rfl) (fun _ _ _ h => h) (Or.inr ⟨by rfl, rfl⟩) (by assumption) ?_
                (try simp only [Act.put, List.getElem_toArray, List.getElem_cons_zero, List.getElem_cons_succ, List.setIfInBounds_toArray, List.set_cons_zero, List.set_cons_succ])
                refine wpAnyH_take (i := 15) (v := undef) rfl (by kernel_rfl) (by kernel_rfl) (by kernel_rfl) (fun _ _ _ h => h) (Or.inr ⟨by rfl, rfl⟩) (by assumption) ?_
                (try simp only [Act.put, List.getElem_toArray, List.getElem_cons_zero, List.getElem_cons_succ, List.setIfInBounds_toArray, List.set_cons_zero, List.set_cons_succ])
                refine wpAnyH_take (i := 16) (v := ?_) rfl (by kernel_rfl) (by kernel_rfl) (by kernel_rfl) (fun _ _ _ h => h) (Or.inl ⟨by rfl, ?_⟩) (by assumption) ?_
                rotate_left
                · (intro wx hSw; have k0 : wx.cell? ⟨G, 0, none⟩ = some (.int .u64 fa) := by rw [hSw.out]; exact HW.out.2.1.drew'.cell 0
                   have k1 : wx.cell? ⟨G + 1, 0, none⟩ = some (.int .u64 x) := by rw [hSw.out]; exact HW.out.2.2.1.drew'.cell 0
                   go_simp; (try with_reducible rfl))
                (try simp only [Act.put, List.getElem_toArray, List.getElem_cons_zero, List.getElem_cons_succ, List.setIfInBounds_toArray, List.set_cons_zero, List.set_cons_succ])
                refine wpAnyH_done (by kernel_rfl) ?_ _
                have HV := Lib.hid (HW.out.below (W' := wr.drew) (Below.refl _ _).drew)
                go_wp2_with fail
                refine wp_region_held_drew (S := fun w' => Hid (w' = wr.drew.drew)) (by kernel_rfl) (show Hid _ from Lib.hid rfl) (fun hHeld => ?_)
                (try simp only [Act.put, List.getElem_toArray, List.getElem_cons_zero, List.getElem_cons_succ, List.setIfInBounds_toArray, List.set_cons_zero, List.set_cons_succ])
                refine wpAnyH_take (i := 0) (v := ?_) rfl (by kernel_rfl) (by kernel_rfl) (by kernel_rfl) (fun _ _ _ h => h) (Or.inl ⟨by rfl, ?_⟩) (by assumption) ?_
                rotate_left
                · (intro wx hSw; have k0 : wx.cell? ⟨G, 0, none⟩ = some (.int .u64 fa) := by rw [hSw.out]; exact HV.out.2.1.drew'.cell 0
                   have k1 : wx.cell? ⟨G + 1, 0, none⟩ = some (.int .u64 x) := by rw [hSw.out]; exact HV.out.2.2.1.drew'.cell 0
                   go_simp; (try with_reducible rfl))
                (try simp only [Act.put, List.getElem_toArray, List.getElem_cons_zero, List.getElem_cons_succ, List.setIfInBounds_toArray, List.set_cons_zero, List.set_cons_succ])
                refine wpAnyH_take (i := 1) (v := ?_) rfl (by kernel_rfl) (by kernel_rfl) (by kernel_rfl) (fun _ _ _ h => h) (Or.inl ⟨by rfl, ?_⟩) (by assumption) ?_
                rotate_left
                · (intro wx hSw; have k0 : wx.cell? ⟨G, 0, none⟩ = some (.int .u64 fa) := by rw [hSw.out]; exact HV.out.2.1.drew'.cell 0
                   have k1 : wx.cell? ⟨G + 1, 0, none⟩ = some (.int .u64 x) := by rw [hSw.out]; exact HV.out.2.2.1.drew'.cell 0
                   go_simp; (try with_reducible rfl))
                (try simp only [Act.put, List.getElem_toArray, List.getElem_cons_zero, List.getElem_cons_succ, List.setIfInBounds_toArray, List.set_cons_zero, List.set_cons_succ])
                refine wpAnyH_take (i := 2) (v := ?_) rfl (by kernel_rfl) (by kernel_rfl) (by kernel_rfl) (fun _ _ _ h => h) (Or.inl ⟨by rfl, ?_⟩) (by assumption) ?_
                rotate_left
                · (intro wx hSw; have k0 : wx.cell? ⟨G, 0, none⟩ = some (.int .u64 fa) := by rw [hSw.out]; exact HV.out.2.1.drew'.cell 0
                   have k1 : wx.cell? ⟨G + 1, 0, none⟩ = some (.int .u64 x) := by rw [hSw.out]; exact HV.out.2.2.1.drew'.cell 0
                   go_simp; (try with_reducible rfl))
                (try simp only [Act.put, List.getElem_toArray, List.getElem_cons_zero, List.getElem_cons_succ, List.setIfInBounds_toArray, List.set_cons_zero, List.set_cons_succ])
                refine wpAnyH_take (i := 3) (v := ?_) rfl (by kernel_rfl) (by kernel_rfl) (by kernel_rfl) (fun _ _ _ h => h) (Or.inl ⟨by rfl, ?_⟩) (by assumption) ?_
                rotate_left
                · (intro wx hSw; have k0 : wx.cell? ⟨G, 0, none⟩ = some (.int .u64 fa) := by rw [hSw.out]; exact HV.out.2.1.drew'.cell 0
                   have k1 : wx.cell? ⟨G + 1, 0, none⟩ = some (.int .u64 x) := by rw [hSw.out]; exact HV.out.2.2.1.drew'.cell 0
                   go_simp; (try with_reducible rfl))
                (try simp only [Act.put, List.getElem_toArray, List.getElem_cons_zero, List.getElem_cons_succ, List.setIfInBounds_toArray, List.set_cons_zero, List.set_cons_succ])
                refine wpAnyH_take (i := 4) (v := ?_) rfl (by kernel_rfl) (by kernel_rfl) (by kernel_rfl) (fun _ _ _ h => h) (Or.inl ⟨by rfl, ?_⟩) (by assumption) ?_
                rotate_left
                · (intro wx hSw; have k0 : wx.cell? ⟨G, 0, none⟩ = some (.int .u64 fa) := by rw [hSw.out]; exact HV.out.2.1.drew'.cell 0
                   have k1 : wx.cell? ⟨G + 1, 0, none⟩ = some (.int .u64 x) := by rw [hSw.out]; exact HV.out.2.2.1.drew'.cell 0
                   go_simp; (try with_reducible rfl))
                (try simp only [Act.put, List.getElem_toArray, List.getElem_cons_zero, List.getElem_cons_succ, List.setIfInBounds_toArray, List.set_cons_zero, List.set_cons_succ])
                refine wpAnyH_take (i := 5) (v := ?_) rfl (by kernel_rfl) (by kernel_rfl) (by kernel_rfl) (fun _ _ _ h => h) (Or.inl ⟨by rfl, ?_⟩) (by assumption) ?_
                rotate_left
                · (intro wx hSw; have k0 : wx.cell? ⟨G, 0, none⟩ = some (.int .u64 fa) := by rw [hSw.out]; exact HV.out.2.1.drew'.cell 0
                   have k1 : wx.cell? ⟨G + 1, 0, none⟩ = some (.int .u64 x) := by rw [hSw.out]; exact HV.out.2.2.1.drew'.cell 0
                   go_simp; (try with_reducible rfl))
                (try simp only [Act.put, List.getElem_toArray, List.getElem_cons_zero, List.getElem_cons_succ, List.setIfInBounds_toArray, List.set_cons_zero, List.set_cons_succ])
                refine wpAnyH_take (i := 6) (v := ?_) rfl (by kernel_rfl) (by kernel_rfl) (by kernel_rfl) (fun _ _ _ h => h) (Or.inl ⟨by rfl, ?_⟩) (by assumption) ?_
                rotate_left
                · (intro wx hSw; have k0 : wx.cell? ⟨G, 0, none⟩ = some (.int .u64 fa) := by rw [hSw.out]; exact HV.out.2.1.drew'.cell 0
                   have k1 : wx.cell? ⟨G + 1, 0, none⟩ = some (.int .u64 x) := by rw [hSw.out]; exact HV.out.2.2.1.drew'.cell 0
                   go_simp; (try with_reducible rfl))
                (try simp only [Act.put, List.getElem_toArray, List.getElem_cons_zero, List.getElem_cons_succ, List.setIfInBounds_toArray, List.set_cons_zero, List.set_cons_succ])
                refine wpAnyH_take (i := 7) (v := ?_) rfl (by kernel_rfl) (by kernel_rfl) (by kernel_rfl) (fun _ _ _ h => h) (Or.inl ⟨by rfl, ?_⟩) (by assumption) ?_
                rotate_left
                · (intro wx hSw; have k0 : wx.cell? ⟨G, 0, none⟩ = some (.int .u64 fa) := by rw [hSw.out]; exact HV.out.2.1.drew'.cell 0
                   have k1 : wx.cell? ⟨G + 1, 0, none⟩ = some (.int .u64 x) := by rw [hSw.out]; exact HV.out.2.2.1.drew'.cell 0
                   go_simp; (try with_reducible rfl))
                (try simp only [Act.put, List.getElem_toArray, List.getElem_cons_zero, List.getElem_cons_succ, List.setIfInBounds_toArray, List.set_cons_zero, List.set_cons_succ])
                refine wpAnyH_take (i := 8) (v := undef) rfl (by kernel_rfl) (by kernel_rfl) (by kernel_rfl) (fun _ _ _ h => h) (Or.inr ⟨by rfl, rfl⟩) (by assumption) ?_
                (try simp only [Act.put, List.getElem_toArray, List.getElem_cons_zero, List.getElem_cons_succ, List.setIfInBounds_toArray, List.set_cons_zero, List.set_cons_succ])
                refine wpAnyH_take (i := 9) (v := undef) rfl (by kernel_rfl) (by kernel_rfl) (by kernel_rfl) (fun _ _ _ h => h) (Or.inr ⟨by rfl, rfl⟩) (by assumption) ?_
                (try simp only [Act.put, List.getElem_toArray, List.getElem_cons_zero, List.getElem_cons_succ, List.setIfInBounds_toArray, List.set_cons_zero, List.set_cons_succ])
                refine wpAnyH_take (i := 10) (v := undef) rfl (by kernel_rfl) (by kernel_rfl) (by kernel_rfl) (fun _ _ _ h => h) (Or.inr ⟨by rfl, rfl⟩) (by assumption) ?_
                (try simp only [Act.put, List.getElem_toArray, List.getElem_cons_zero, List.getElem_cons_succ, List.setIfInBounds_toArray, List.set_cons_zero, List.set_cons_succ])
                refine wpAnyH_take (i := 11) (v := undef) rfl (by kernel_rfl) (by kernel_rfl) (by kernel_rfl) (fun _ _ _ h => h) (Or.inr ⟨by rfl, rfl⟩) (by assumption) ?_
                (try simp only [Act.put, List.getElem_toArray, List.getElem_cons_zero, List.getElem_cons_succ, List.setIfInBounds_toArray, List.set_cons_zero, List.set_cons_succ])
                refine wpAnyH_take (i := 12) (v := undef) rfl (by kernel_rfl) (by kernel_rfl) (by kernel_rfl) (fun _ _ _ h => h) (Or.inr ⟨by rfl, rfl⟩) (by assumption) ?_
                (try simp only [Act.put, List.getElem_toArray, List.getElem_cons_zero, List.getElem_cons_succ, List.setIfInBounds_toArray, List.set_cons_zero, List.set_cons_succ])
                refine wpAnyH_take (i := 13) (v := undef) rfl (by kernel_rfl) (by kernel_rfl) (by kernel_rfl) (fun _ _ _ h => h) (Or.inr ⟨by rfl, rfl⟩) (by assumption) ?_
                (try simp only [Act.put, List.getElem_toArray, List.getElem_cons_zero, List.getElem_cons_succ, List.setIfInBounds_toArray, List.set_cons_zero, List.set_cons_succ])
                refine wpAnyH_take (i := 14) (v := undef) rfl (by kernel_rfl) (by kernel_rfl) (by kernel_rfl) (fun _ _ _ h => h) (Or.inr ⟨by rfl, rfl⟩) (by assumption) ?_
                (try simp only [Act.put, List.getElem_toArray, List.getElem_cons_zero, List.getElem_cons_succ, List.setIfInBounds_toArray, List.set_cons_zero, List.set_cons_succ])
                refine wpAnyH_take (i := 15) (v := undef) rfl (by kernel_rfl) (by kernel_rfl) (by kernel_rfl) (fun _ _ _ h => h) (Or.inr ⟨by rfl, rfl⟩) (by assumption) ?_
                (try simp only [Act.put, List.getElem_toArray, List.getElem_cons_zero, List.getElem_cons_succ, List.setIfInBounds_toArray, List.set_cons_zero, List.set_cons_succ])
                refine wpAnyH_take (i := 16) (v := ?_) rfl (by kernel_rfl) (by kernel_rfl) (by kernel_rfl) (fun _ _ _ h => h) (Or.inl ⟨by rfl, ?_⟩) (by assumption) ?_
                rotate_left
                · (intro wx hSw; have k0 : wx.cell? ⟨G, 0, none⟩ = some (.int .u64 fa) := by rw [hSw.out]; exact HV.out.2.1.drew'.cell 0
                   have k1 : wx.cell? ⟨G + 1, 0, none⟩ = some (.int .u64 x) := by rw [hSw.out]; exact HV.out.2.2.1.drew'.cell 0
                   go_simp; (try with_reducible rfl))
                (try simp only [Act.put, List.getElem_toArray, List.getElem_cons_zero, List.getElem_cons_succ, List.setIfInBounds_toArray, List.set_cons_zero, List.set_cons_succ])
                refine wpAnyH_done (by kernel_rfl) ?_ _
                have HU := Lib.hid (HV.out.below (W' := wr.drew.drew) (Below.refl _ _).drew)
                have HJ := Lib.hid (HI.out.stay0 (by show ¬ fa < x; omega))
                go_wp2_with fail
                go_roundw
                case rel => exact ⟨1, S, fa, fb, fc, by omega, by go_num, by omega, HJ, HU⟩
                case measure => simp [intOf]
            · have D0 : Hid ((0 ≤ fb ∧ fb < 18446744073709551616) ∧ (0 ≤ y ∧ y < 18446744073709551616)) := by
                obtain ⟨⟨F0, F1⟩, ⟨F2, F3⟩, F4, F5⟩ := HI.out.2.2.1
                obtain ⟨⟨T0, T1⟩, ⟨T2, T3⟩, T4, T5⟩ := hu.out
                exact ⟨⟨by assumption, by assumption⟩, ⟨by assumption, by assumption⟩⟩
              by_cases hlt : fb < y
              · have hlt2 : (fb < y) = True := eq_true hlt
                have wd : IntKind.u64.wrap (y - fb) = y - fb := by have := D0.out; rw [IntKind.wrap_u64]; omega
                by_cases h32 : y - fb ≤ 32
                · have h32a : (y - fb ≤ 32) = True := eq_true h32
                  have h32b : (32 < y - fb) = False := eq_false (by omega)
                  go_wp2_with fail
                  refine wp_region_held_drew (S := fun w' => Hid (w' = wr.drew)) (by kernel_rfl) (show Hid _ from Lib.hid rfl) (fun hHeld => ?_)
                  (try simp only [Act.put, List.getElem_toArray, List.getElem_cons_zero, List.getElem_cons_succ, List.setIfInBounds_toArray, List.set_cons_zero, List.set_cons_succ])
                  refine wpAnyH_take (i := 0) (v := ?_) rfl (by kernel_rfl) (by kernel_rfl) (by kernel_rfl) (fun _ _ _ h => h) (Or.inl ⟨by rfl, ?_⟩) (by assumption) ?_
                  rotate_left
                  · (intro wx hSw; have k0 : wx.cell? ⟨G, 1, none⟩ = some (.int .u64 fb) := by rw [hSw.out]; exact HW.out.2.1.drew'.cell 1
                     have k1 : wx.cell? ⟨G + 1, 1, none⟩ = some (.int .u64 y) := by rw [hSw.out]; exact HW.out.2.2.1.drew'.cell 1
                     go_simp; (try with_reducible rfl))
                  (try simp only [Act.put, List.getElem_toArray, List.getElem_cons_zero, List.getElem_cons_succ, List.setIfInBounds_toArray, List.set_cons_zero, List.set_cons_succ])
                  refine wpAnyH_take (i := 1) (v := ?_) rfl (by kernel_rfl) (by kernel_rfl) (by kernel_rfl) (fun _ _ _ h => h) (Or.inl ⟨by rfl, ?_⟩) (by assumption) ?_
                  rotate_left
                  · (intro wx hSw; have k0 : wx.cell? ⟨G, 1, none⟩ = some (.int .u64 fb) := by rw [hSw.out]; exact HW.out.2.1.drew'.cell 1
                     have k1 : wx.cell? ⟨G + 1, 1, none⟩ = some (.int .u64 y) := by rw [hSw.out]; exact HW.out.2.2.1.drew'.cell 1
                     go_simp; (try with_reducible rfl))
                  (try simp only [Act.put, List.getElem_toArray, List.getElem_cons_zero, List.getElem_cons_succ, List.setIfInBounds_toArray, List.set_cons_zero, List.set_cons_succ])
                  refine wpAnyH_take (i := 2) (v := ?_) rfl (by kernel_rfl) (by kernel_rfl) (by kernel_rfl) (fun _ _ _ h => h) (Or.inl ⟨by rfl, ?_⟩) (by assumption) ?_
                  rotate_left
                  · (intro wx hSw; have k0 : wx.cell? ⟨G, 1, none⟩ = some (.int .u64 fb) := by rw [hSw.out]; exact HW.out.2.1.drew'.cell 1
                     have k1 : wx.cell? ⟨G + 1, 1, none⟩ = some (.int .u64 y) := by rw [hSw.out]; exact HW.out.2.2.1.drew'.cell 1
                     go_simp; (try with_reducible rfl))
                  (try simp only [Act.put, List.getElem_toArray, List.getElem_cons_zero, List.getElem_cons_succ, List.setIfInBounds_toArray, List.set_cons_zero, List.set_cons_succ])
                  refine wpAnyH_take (i := 3) (v := ?_) rfl (by kernel_rfl) (by kernel_rfl) (by kernel_rfl) (fun _ _ _ h => h) (Or.inl ⟨by rfl, ?_⟩) (by assumption) ?_
                  rotate_left
                  · (intro wx hSw; have k0 : wx.cell? ⟨G, 1, none⟩ = some (.int .u64 fb) := by rw [hSw.out]; exact HW.out.2.1.drew'.cell 1
                     have k1 : wx.cell? ⟨G + 1, 1, none⟩ = some (.int .u64 y) := by rw [hSw.out]; exact HW.out.2.2.1.drew'.cell 1
                     go_simp; (try with_reducible rfl))
                  (try simp only [Act.put, List.getElem_toArray, List.getElem_cons_zero, List.getElem_cons_succ, List.setIfInBounds_toArray, List.set_cons_zero, List.set_cons_succ])
                  refine wpAnyH_take (i := 4) (v := ?_) rfl (by kernel_rfl) (by kernel_rfl) (by kernel_rfl) (fun _ _ _ h => h) (Or.inl ⟨by rfl, ?_⟩) (by assumption) ?_
                  rotate_left
                  · (intro wx hSw; have k0 : wx.cell? ⟨G, 1, none⟩ = some (.int .u64 fb) := by rw [hSw.out]; exact HW.out.2.1.drew'.cell 1
                     have k1 : wx.cell? ⟨G + 1, 1, none⟩ = some (.int .u64 y) := by rw [hSw.out]; exact HW.out.2.2.1.drew'.cell 1
                     go_simp; (try with_reducible rfl))
                  (try simp only [Act.put, List.getElem_toArray, List.getElem_cons_zero, List.getElem_cons_succ, List.setIfInBounds_toArray, List.set_cons_zero, List.set_cons_succ])
                  refine wpAnyH_take (i := 5) (v := ?_) rfl (by kernel_rfl) (by kernel_rfl) (by kernel_rfl) (fun _ _ _ h => h) (Or.inl ⟨by rfl, ?_⟩) (by assumption) ?_
                  rotate_left
                  · (intro wx hSw; have k0 : wx.cell? ⟨G, 1, none⟩ = some (.int .u64 fb) := by rw [hSw.out]; exact HW.out.2.1.drew'.cell 1
                     have k1 : wx.cell? ⟨G + 1, 1, none⟩ = some (.int .u64 y) := by rw [hSw.out]; exact HW.out.2.2.1.drew'.cell 1
                     go_simp; (try with_reducible rfl))
                  (try simp only [Act.put, List.getElem_toArray, List.getElem_cons_zero, List.getElem_cons_succ, List.setIfInBounds_toArray, List.set_cons_zero, List.set_cons_succ])
                  refine wpAnyH_take (i := 6) (v := ?_) rfl (by kernel_rfl) (by kernel_rfl) (by kernel_rfl) (fun _ _ _ h => h) (Or.inl ⟨by rfl, ?_⟩) (by assumption) ?_
                  rotate_left
                  · (intro wx hSw; have k0 : wx.cell? ⟨G, 1, none⟩ = some (.int .u64 fb) := by rw [hSw.out]; exact HW.out.2.1.drew'.cell 1
                     have k1 : wx.cell? ⟨G + 1, 1, none⟩ = some (.int .u64 y) := by rw [hSw.out]; exact HW.out.2.2.1.drew'.cell 1
                     go_simp; (try with_reducible rfl))
                  (try simp only [Act.put, List.getElem_toArray, List.getElem_cons_zero, List.getElem_cons_succ, List.setIfInBounds_toArray, List.set_cons_zero, List.set_cons_succ])
                  refine wpAnyH_take (i := 7) (v := ?_) rfl (by kernel_rfl) (by kernel_rfl) (by kernel_rfl) (fun _ _ _ h => h) (Or.inl ⟨by rfl, ?_⟩) (by assumption) ?_
                  rotate_left
                  · (intro wx hSw; have k0 : wx.cell? ⟨G, 1, none⟩ = some (.int .u64 fb) := by rw [hSw.out]; exact HW.out.2.1.drew'.cell 1
                     have k1 : wx.cell? ⟨G + 1, 1, none⟩ = some (.int .u64 y) := by rw [hSw.out]; exact HW.out.2.2.1.drew'.cell 1
                     go_simp; (try with_reducible rfl))
                  (try simp only [Act.put, List.getElem_toArray, List.getElem_cons_zero, List.getElem_cons_succ, List.setIfInBounds_toArray, List.set_cons_zero, List.set_cons_succ])
                  refine wpAnyH_take (i := 8) (v := ?_) rfl (by kernel_rfl) (by kernel_rfl) (by kernel_rfl) (fun _ _ _ h => h) (Or.inl ⟨by rfl, ?_⟩) (by assumption) ?_
                  rotate_left
                  · (intro wx hSw; have k0 : wx.cell? ⟨G, 1, none⟩ = some (.int .u64 fb) := by rw [hSw.out]; exact HW.out.2.1.drew'.cell 1
                     have k1 : wx.cell? ⟨G + 1, 1, none⟩ = some (.int .u64 y) := by rw [hSw.out]; exact HW.out.2.2.1.drew'.cell 1
                     go_simp; (try with_reducible rfl))
                  (try simp only [Act.put, List.getElem_toArray, List.getElem_cons_zero, List.getElem_cons_succ, List.setIfInBounds_toArray, List.set_cons_zero, List.set_cons_succ])
                  refine wpAnyH_take (i := 9) (v := ?_) rfl (by kernel_rfl) (by kernel_rfl) (by kernel_rfl) (fun _ _ _ h => h) (Or.inl ⟨by rfl, ?_⟩) (by assumption) ?_
                  rotate_left
                  · (intro wx hSw; have k0 : wx.cell? ⟨G, 1, none⟩ = some (.int .u64 fb) := by rw [hSw.out]; exact HW.out.2.1.drew'.cell 1
                     have k1 : wx.cell? ⟨G + 1, 1, none⟩ = some (.int .u64 y) := by rw [hSw.out]; exact HW.out.2.2.1.drew'.cell 1
                     go_simp; (try with_reducible rfl))
                  (try simp only [Act.put, List.getElem_toArray, List.getElem_cons_zero, List.getElem_cons_succ, List.setIfInBounds_toArray, List.set_cons_zero, List.set_cons_succ])
                  refine wpAnyH_take (i := 10) (v := ?_) rfl (by kernel_rfl) (by kernel_rfl) (by kernel_rfl) (fun _ _ _ h => h) (Or.inl ⟨by rfl, ?_⟩) (by assumption) ?_
                  rotate_left
                  · (intro wx hSw; have k0 : wx.cell? ⟨G, 1, none⟩ = some (.int .u64 fb) := by rw [hSw.out]; exact HW.out.2.1.drew'.cell 1
                     have k1 : wx.cell? ⟨G + 1, 1, none⟩ = some (.int .u64 y) := by rw [hSw.out]; exact HW.out.2.2.1.drew'.cell 1
                     go_simp; (try with_reducible rfl))
                  (try simp only [Act.put, List.getElem_toArray, List.getElem_cons_zero, List.getElem_cons_succ, List.setIfInBounds_toArray, List.set_cons_zero, List.set_cons_succ])
                  refine wpAnyH_take (i := 11) (v := ?_) rfl (by kernel_rfl) (by kernel_rfl) (by kernel_rfl) (fun _ _ _ h => h) (Or.inl ⟨by rfl, ?_⟩) (by assumption) ?_
                  rotate_left
                  · (intro wx hSw; have k0 : wx.cell? ⟨G, 1, none⟩ = some (.int .u64 fb) := by rw [hSw.out]; exact HW.out.2.1.drew'.cell 1
                     have k1 : wx.cell? ⟨G + 1, 1, none⟩ = some (.int .u64 y) := by rw [hSw.out]; exact HW.out.2.2.1.drew'.cell 1
                     go_simp; (try with_reducible rfl))
                  (try simp only [Act.put, List.getElem_toArray, List.getElem_cons_zero, List.getElem_cons_succ, List.setIfInBounds_toArray, List.set_cons_zero, List.set_cons_succ])
                  refine wpAnyH_take (i := 12) (v := ?_) rfl (by kernel_rfl) (by kernel_rfl) (by kernel_rfl) (fun _ _ _ h => h) (Or.inl ⟨by rfl, ?_⟩) (by assumption) ?_
                  rotate_left
                  · (intro wx hSw; have k0 : wx.cell? ⟨G, 1, none⟩ = some (.int .u64 fb) := by rw [hSw.out]; exact HW.out.2.1.drew'.cell 1
                     have k1 : wx.cell? ⟨G + 1, 1, none⟩ = some (.int .u64 y) := by rw [hSw.out]; exact HW.out.2.2.1.drew'.cell 1
                     go_simp; (try with_reducible rfl))
                  (try simp only [Act.put, List.getElem_toArray, List.getElem_cons_zero, List.getElem_cons_succ, List.setIfInBounds_toArray, List.set_cons_zero, List.set_cons_succ])
                  refine wpAnyH_take (i := 13) (v := ?_) rfl (by kernel_rfl) (by kernel_rfl) (by kernel_rfl) (fun _ _ _ h => h) (Or.inl ⟨by rfl, ?_⟩) (by assumption) ?_
                  rotate_left
                  · (intro wx hSw; have k0 : wx.cell? ⟨G, 1, none⟩ = some (.int .u64 fb) := by rw [hSw.out]; exact HW.out.2.1.drew'.cell 1
                     have k1 : wx.cell? ⟨G + 1, 1, none⟩ = some (.int .u64 y) := by rw [hSw.out]; exact HW.out.2.2.1.drew'.cell 1
                     go_simp; (try with_reducible rfl))
                  (try simp only [Act.put, List.getElem_toArray, List.getElem_cons_zero, List.getElem_cons_succ, List.setIfInBounds_toArray, List.set_cons_zero, List.set_cons_succ])
                  refine wpAnyH_take (i := 14) (v := ?_) rfl (by kernel_rfl) (by kernel_rfl) (by kernel_rfl) (fun _ _ _ h => h) (Or.inl ⟨by rfl, ?_⟩) (by assumption) ?_
                  rotate_left
                  · (intro wx hSw; have k0 : wx.cell? ⟨G, 1, none⟩ = some (.int .u64 fb) := by rw [hSw.out]; exact HW.out.2.1.drew'.cell 1
                     have k1 : wx.cell? ⟨G + 1, 1, none⟩ = some (.int .u64 y) := by rw [hSw.out]; exact HW.out.2.2.1.drew'.cell 1
                     go_simp; (try with_reducible rfl))
                  (try simp only [Act.put, List.getElem_toArray, List.getElem_cons_zero, List.getElem_cons_succ, List.setIfInBounds_toArray, List.set_cons_zero, List.set_cons_succ])
                  refine wpAnyH_take (i := 15) (v := ?_) rfl (by kernel_rfl) (by kernel_rfl) (by kernel_rfl) (fun _ _ _ h => h) (Or.inl ⟨by rfl, ?_⟩) (by assumption) ?_
                  rotate_left
                  · (intro wx hSw; have k0 : wx.cell? ⟨G, 1, none⟩ = some (.int .u64 fb) := by rw [hSw.out]; exact HW.out.2.1.drew'.cell 1
                     have k1 : wx.cell? ⟨G + 1, 1, none⟩ = some (.int .u64 y) := by rw [hSw.out]; exact HW.out.2.2.1.drew'.cell 1
                     go_simp; (try with_reducible rfl))
                  (try simp only [Act.put, List.getElem_toArray, List.getElem_cons_zero, List.getElem_cons_succ, List.setIfInBounds_toArray, List.set_cons_zero, List.set_cons_succ])
                  refine wpAnyH_take (i := 16) (v := ?_) rfl (by kernel_rfl) (by kernel_rfl) (by kernel_rfl) (fun _ _ _ h => h) (Or.inl ⟨by rfl, ?_⟩) (by assumption) ?_
                  rotate_left
                  · (intro wx hSw; have k0 : wx.cell? ⟨G, 1, none⟩ = some (.int .u64 fb) := by rw [hSw.out]; exact HW.out.2.1.drew'.cell 1
                     have k1 : wx.cell? ⟨G + 1, 1, none⟩ = some (.int .u64 y) := by rw [hSw.out]; exact HW.out.2.2.1.drew'.cell 1
                     go_simp; (try with_reducible rfl))
                  (try simp only [Act.put, List.getElem_toArray, List.getElem_cons_zero, List.getElem_cons_succ, List.setIfInBounds_toArray, List.set_cons_zero, List.set_cons_succ])
                  refine wpAnyH_done (by kernel_rfl) ?_ _
                  have HV := Lib.hid (HW.out.below (W' := wr.drew) (Below.refl _ _).drew)
                  have k0 : wr.cell? ⟨G, 1, none⟩ = some (.int .u64 fb) := HW.out.2.1.cell 1
                  obtain ⟨M, hM⟩ : ∃ M : Nat, Hid ((M : Int) = y - fb) := ⟨(y - fb).toNat, by show _ = _; omega⟩
                  have hM32 : M ≤ 32 := by have := hM.out; omega
                  go_wp2_with fail
                  clear k0
                  obtain ⟨wo, rfl⟩ : ∃ wo : World, wo = wr := ⟨_, rfl⟩
                  go_loopw [5, 9] (fun sv2 nv wr => ∃ m : Nat, m ≤ M ∧ nv = .int .u64 (fb + m) ∧ Hid (RW w a b c x y z G wr (sv2) (S ++ List.replicate m 1) fa fb fc)) (fun _ nv _ => M - (intOf nv - fb).toNat)
                  case atStart => exact ⟨0, Nat.zero_le _, by go_num, by show RW _ _ _ _ _ _ _ _ _ _ _ _ _ _; simpa using HV.out⟩
                  case round =>
                    obtain ⟨m, hm, rfl, HQ⟩ := hrel
                    have k1 : wr.cell? ⟨G + 1, 1, none⟩ = some (.int .u64 y) := HQ.out.2.2.1.cell 1
                    by_cases hmM : m < M
                    · have hlt3 : (fb + (m : Int) < y) = True := eq_true (by have := hM.out; omega)
                      have hle3 : fb + (m : Int) + 1 < 18446744073709551616 := by have := hM.out; have := D0.out; omega
                      have hge3 : 0 ≤ fb := D0.out.1.1
                      go_wp2_with (at_builtin; refine stop_here ?_)
                      unfold Stop
                      have bA := (Below.refl wr.heap.size wr).alloc (Nat.le_refl _) (.cells #[.int .u8 1] 5)
                      have hlen : (S ++ List.replicate m (1 : Int)).length = S.length + m := by simp
                      obtain ⟨cs, hcl, hcz, hown2, hR⟩ := HQ.out.1.below RU8.mono bA
                      rw [hlen] at hown2 hcl
                      refine wpList_append_own _ rfl _ _ 28 rfl _ 5 i0 (.int .u8 0) 1 1 Tryd.underlying28 hi hz0 hz1 hz2 rfl (by decide) _ _ _ rfl hown2 ⟨wr.heap.size, 0, none⟩ 1 1 [.int .u8 1] rfl rfl (cells_new wr #[.int .u8 1] _) ?_ ?_ ?_ ?_ ?_
                      · intro y hy; simp at hy; rcases hy with rfl; rfl
                      · unfold maxLen; omega
                      · omega
                      · have h1 := HQ.out.2.2.1.lt; exact Nat.le_trans h1 bA.size
                      intro v' w2 hown3 hgrow _
                      have HN : Hid (RW w a b c x y z G w2 (v') (S ++ List.replicate (m + 1) 1) fa fb fc) := by
                        show RW _ _ _ _ _ _ _ _ _ _ _ _ _ _
                        rw [List.replicate_succ', ← List.append_assoc]
                        exact HQ.out.push _ _ hlen hcl hcz hown2 hR hgrow hown3 hG1
                      clear hgrow hown3 hown2 hR hcz hcl bA HQ k1 hlen
                      go_wp2_with fail
                      go_roundw
                      case rel => exact ⟨m + 1, by omega, by go_num, HN⟩
                      case measure => simp [intOf]; omega
                    · obtain rfl : m = M := by omega
                      have hlt3 : (fb + (m : Int) < y) = False := eq_false (by have := hM.out; omega)
                      go_wp2_with fail
                      have hM2 := Lib.hid (show (m : Int) = y - fb from hM.out)
                      clear k1 HW HV
                      refine wp_loop_rounds 2 ?_
                      rw [rounds_succ]
                      have k2 : wr.cell? ⟨G, 2, none⟩ = some (.int .u64 fc) := HQ.out.2.1.cell 2
                      have f2 : wr.frozen? ⟨G, 2, none⟩ = false := by simp [World.frozen?, show wr.heap[G]? = _ from HQ.out.2.1]
                      have HZ2 := Lib.hid (HQ.out.zero2 hG1)
                      go_wp2_with fail
                      clear k2 f2
                      rw [rounds_succ]
                      go_wp2_with fail
                      have HWs := Lib.hid HZ2.out
                      have HJ := Lib.hid (HI.out.go1 hu.out (by show fb < y; omega) m hM2.out)
                      clear HQ HI hM hM2 HZ2
                      generalize (wr.setCell ⟨G, 2, none⟩ (.int .u64 0)) = ws at *
                      refine wp_region_held_drew (S := fun w' => Hid (w' = ws.drew)) (by kernel_rfl) (show Hid _ from Lib.hid rfl) (fun hHeld => ?_)
                      (try simp only [Act.put, List.getElem_toArray, List.getElem_cons_zero, List.getElem_cons_succ, List.setIfInBounds_toArray, List.set_cons_zero, List.set_cons_succ])
                      refine wpAnyH_take (i := 0) (v := ?_) rfl (by kernel_rfl) (by kernel_rfl) (by kernel_rfl) (fun _ _ _ h => h) (Or.inl ⟨by rfl, ?_⟩) (by assumption) ?_
                      rotate_left
                      · (intro wx hSw; have k0 : wx.cell? ⟨G, 1, none⟩ = some (.int .u64 fb) := by rw [hSw.out]; exact HWs.out.2.1.drew'.cell 1
                         have k1 : wx.cell? ⟨G + 1, 1, none⟩ = some (.int .u64 y) := by rw [hSw.out]; exact HWs.out.2.2.1.drew'.cell 1
                         go_simp; (try with_reducible rfl))
                      (try simp only [Act.put, List.getElem_toArray, List.getElem_cons_zero, List.getElem_cons_succ, List.setIfInBounds_toArray, List.set_cons_zero, List.set_cons_succ])
                      refine wpAnyH_take (i := 1) (v := ?_) rfl (by kernel_rfl) (by kernel_rfl) (by kernel_rfl) (fun _ _ _ h => h) (Or.inl ⟨by rfl, ?_⟩) (by assumption) ?_
                      rotate_left
                      · (intro wx hSw; have k0 : wx.cell? ⟨G, 1, none⟩ = some (.int .u64 fb) := by rw [hSw.out]; exact HWs.out.2.1.drew'.cell 1
                         have k1 : wx.cell? ⟨G + 1, 1, none⟩ = some (.int .u64 y) := by rw [hSw.out]; exact HWs.out.2.2.1.drew'.cell 1
                         go_simp; (try with_reducible rfl))
                      (try simp only [Act.put, List.getElem_toArray, List.getElem_cons_zero, List.getElem_cons_succ, List.setIfInBounds_toArray, List.set_cons_zero, List.set_cons_succ])
                      refine wpAnyH_take (i := 2) (v := ?_) rfl (by kernel_rfl) (by kernel_rfl) (by kernel_rfl) (fun _ _ _ h => h) (Or.inl ⟨by rfl, ?_⟩) (by assumption) ?_
                      rotate_left
                      · (intro wx hSw; have k0 : wx.cell? ⟨G, 1, none⟩ = some (.int .u64 fb) := by rw [hSw.out]; exact HWs.out.2.1.drew'.cell 1
                         have k1 : wx.cell? ⟨G + 1, 1, none⟩ = some (.int .u64 y) := by rw [hSw.out]; exact HWs.out.2.2.1.drew'.cell 1
                         go_simp; (try with_reducible rfl))
                      (try simp only [Act.put, List.getElem_toArray, List.getElem_cons_zero, List.getElem_cons_succ, List.setIfInBounds_toArray, List.set_cons_zero, List.set_cons_succ])
                      refine wpAnyH_take (i := 3) (v := ?_) rfl (by kernel_rfl) (by kernel_rfl) (by kernel_rfl) (fun _ _ _ h => h) (Or.inl ⟨by rfl, ?_⟩) (by assumption) ?_
                      rotate_left
                      · (intro wx hSw; have k0 : wx.cell? ⟨G, 1, none⟩ = some (.int .u64 fb) := by rw [hSw.out]; exact HWs.out.2.1.drew'.cell 1
                         have k1 : wx.cell? ⟨G + 1, 1, none⟩ = some (.int .u64 y) := by rw [hSw.out]; exact HWs.out.2.2.1.drew'.cell 1
                         go_simp; (try with_reducible rfl))
                      (try simp only [Act.put, List.getElem_toArray, List.getElem_cons_zero, List.getElem_cons_succ, List.setIfInBounds_toArray, List.set_cons_zero, List.set_cons_succ])
                      refine wpAnyH_take (i := 4) (v := ?_) rfl (by kernel_rfl) (by kernel_rfl) (by kernel_rfl) (fun _ _ _ h => h) (Or.inl ⟨by rfl, ?_⟩) (by assumption) ?_
                      rotate_left
                      · (intro wx hSw; have k0 : wx.cell? ⟨G, 1, none⟩ = some (.int .u64 fb) := by rw [hSw.out]; exact HWs.out.2.1.drew'.cell 1
                         have k1 : wx.cell? ⟨G + 1, 1, none⟩ = some (.int .u64 y) := by rw [hSw.out]; exact HWs.out.2.2.1.drew'.cell 1
                         go_simp; (try with_reducible rfl))
                      (try simp only [Act.put, List.getElem_toArray, List.getElem_cons_zero, List.getElem_cons_succ, List.setIfInBounds_toArray, List.set_cons_zero, List.set_cons_succ])
                      refine wpAnyH_take (i := 5) (v := ?_) rfl (by kernel_rfl) (by kernel_rfl) (by kernel_rfl) (fun _ _ _ h => h) (Or.inl ⟨by rfl, ?_⟩) (by assumption) ?_
                      rotate_left
                      · (intro wx hSw; have k0 : wx.cell? ⟨G, 1, none⟩ = some (.int .u64 fb) := by rw [hSw.out]; exact HWs.out.2.1.drew'.cell 1
                         have k1 : wx.cell? ⟨G + 1, 1, none⟩ = some (.int .u64 y) := by rw [hSw.out]; exact HWs.out.2.2.1.drew'.cell 1
                         go_simp; (try with_reducible rfl))
                      (try simp only [Act.put, List.getElem_toArray, List.getElem_cons_zero, List.getElem_cons_succ, List.setIfInBounds_toArray, List.set_cons_zero, List.set_cons_succ])
                      refine wpAnyH_take (i := 6) (v := ?_) rfl (by kernel_rfl) (by kernel_rfl) (by kernel_rfl) (fun _ _ _ h => h) (Or.inl ⟨by rfl, ?_⟩) (by assumption) ?_
                      rotate_left
                      · (intro wx hSw; have k0 : wx.cell? ⟨G, 1, none⟩ = some (.int .u64 fb) := by rw [hSw.out]; exact HWs.out.2.1.drew'.cell 1
                         have k1 : wx.cell? ⟨G + 1, 1, none⟩ = some (.int .u64 y) := by rw [hSw.out]; exact HWs.out.2.2.1.drew'.cell 1
                         go_simp; (try with_reducible rfl))
                      (try simp only [Act.put, List.getElem_toArray, List.getElem_cons_zero, List.getElem_cons_succ, List.setIfInBounds_toArray, List.set_cons_zero, List.set_cons_succ])
                      refine wpAnyH_take (i := 7) (v := ?_) rfl (by kernel_rfl) (by kernel_rfl) (by kernel_rfl) (fun _ _ _ h => h) (Or.inl ⟨by rfl, ?_⟩) (by assumption) ?_
                      rotate_left
                      · (intro wx hSw; have k0 : wx.cell? ⟨G, 1, none⟩ = some (.int .u64 fb) := by rw [hSw.out]; exact HWs.out.2.1.drew'.cell 1
                         have k1 : wx.cell? ⟨G + 1, 1, none⟩ = some (.int .u64 y) := by rw [hSw.out]; exact HWs.out.2.2.1.drew'.cell 1
                         go_simp; (try with_reducible rfl))
                      (try simp only [Act.put, List.getElem_toArray, List.getElem_cons_zero, List.getElem_cons_succ, List.setIfInBounds_toArray, List.set_cons_zero, List.set_cons_succ])
                      refine wpAnyH_take (i := 8) (v := ?_) rfl (by kernel_rfl) (by kernel_rfl) (by kernel_rfl) (fun _ _ _ h => h) (Or.inl ⟨by rfl, ?_⟩) (by assumption) ?_
                      rotate_left
                      · (intro wx hSw; have k0 : wx.cell? ⟨G, 1, none⟩ = some (.int .u64 fb) := by rw [hSw.out]; exact HWs.out.2.1.drew'.cell 1
                         have k1 : wx.cell? ⟨G + 1, 1, none⟩ = some (.int .u64 y) := by rw [hSw.out]; exact HWs.out.2.2.1.drew'.cell 1
                         go_simp; (try with_reducible rfl))
                      (try simp only [Act.put, List.getElem_toArray, List.getElem_cons_zero, List.getElem_cons_succ, List.setIfInBounds_toArray, List.set_cons_zero, List.set_cons_succ])
                      refine wpAnyH_take (i := 9) (v := ?_) rfl (by kernel_rfl) (by kernel_rfl) (by kernel_rfl) (fun _ _ _ h => h) (Or.inl ⟨by rfl, ?_⟩) (by assumption) ?_
                      rotate_left
                      · (intro wx hSw; have k0 : wx.cell? ⟨G, 1, none⟩ = some (.int .u64 fb) := by rw [hSw.out]; exact HWs.out.2.1.drew'.cell 1
                         have k1 : wx.cell? ⟨G + 1, 1, none⟩ = some (.int .u64 y) := by rw [hSw.out]; exact HWs.out.2.2.1.drew'.cell 1
                         go_simp; (try with_reducible rfl))
                      (try simp only [Act.put, List.getElem_toArray, List.getElem_cons_zero, List.getElem_cons_succ, List.setIfInBounds_toArray, List.set_cons_zero, List.set_cons_succ])
                      refine wpAnyH_take (i := 10) (v := ?_) rfl (by kernel_rfl) (by kernel_rfl) (by kernel_rfl) (fun _ _ _ h => h) (Or.inl ⟨by rfl, ?_⟩) (by assumption) ?_
                      rotate_left
                      · (intro wx hSw; have k0 : wx.cell? ⟨G, 1, none⟩ = some (.int .u64 fb) := by rw [hSw.out]; exact HWs.out.2.1.drew'.cell 1
                         have k1 : wx.cell? ⟨G + 1, 1, none⟩ = some (.int .u64 y) := by rw [hSw.out]; exact HWs.out.2.2.1.drew'.cell 1
                         go_simp; (try with_reducible rfl))
                      (try simp only [Act.put, List.getElem_toArray, List.getElem_cons_zero, List.getElem_cons_succ, List.setIfInBounds_toArray, List.set_cons_zero, List.set_cons_succ])
                      refine wpAnyH_take (i := 11) (v := ?_) rfl (by kernel_rfl) (by kernel_rfl) (by kernel_rfl) (fun _ _ _ h => h) (Or.inl ⟨by rfl, ?_⟩) (by assumption) ?_
                      rotate_left
                      · (intro wx hSw; have k0 : wx.cell? ⟨G, 1, none⟩ = some (.int .u64 fb) := by rw [hSw.out]; exact HWs.out.2.1.drew'.cell 1
                         have k1 : wx.cell? ⟨G + 1, 1, none⟩ = some (.int .u64 y) := by rw [hSw.out]; exact HWs.out.2.2.1.drew'.cell 1
                         go_simp; (try with_reducible rfl))
                      (try simp only [Act.put, List.getElem_toArray, List.getElem_cons_zero, List.getElem_cons_succ, List.setIfInBounds_toArray, List.set_cons_zero, List.set_cons_succ])
                      refine wpAnyH_take (i := 12) (v := ?_) rfl (by kernel_rfl) (by kernel_rfl) (by kernel_rfl) (fun _ _ _ h => h) (Or.inl ⟨by rfl, ?_⟩) (by assumption) ?_
                      rotate_left
                      · (intro wx hSw; have k0 : wx.cell? ⟨G, 1, none⟩ = some (.int .u64 fb) := by rw [hSw.out]; exact HWs.out.2.1.drew'.cell 1
                         have k1 : wx.cell? ⟨G + 1, 1, none⟩ = some (.int .u64 y) := by rw [hSw.out]; exact HWs.out.2.2.1.drew'.cell 1
                         go_simp; (try with_reducible rfl))
                      (try simp only [Act.put, List.getElem_toArray, List.getElem_cons_zero, List.getElem_cons_succ, List.setIfInBounds_toArray, List.set_cons_zero, List.set_cons_succ])
                      refine wpAnyH_take (i := 13) (v := ?_) rfl (by kernel_rfl) (by kernel_rfl) (by kernel_rfl) (fun _ _ _ h => h) (Or.inl ⟨by rfl, ?_⟩) (by assumption) ?_
                      rotate_left
                      · (intro wx hSw; have k0 : wx.cell? ⟨G, 1, none⟩ = some (.int .u64 fb) := by rw [hSw.out]; exact HWs.out.2.1.drew'.cell 1
                         have k1 : wx.cell? ⟨G + 1, 1, none⟩ = some (.int .u64 y) := by rw [hSw.out]; exact HWs.out.2.2.1.drew'.cell 1
                         go_simp; (try with_reducible rfl))
                      (try simp only [Act.put, List.getElem_toArray, List.getElem_cons_zero, List.getElem_cons_succ, List.setIfInBounds_toArray, List.set_cons_zero, List.set_cons_succ])
                      refine wpAnyH_take (i := 14) (v := ?_) rfl (by kernel_rfl) (by kernel_rfl) (by kernel_rfl) (fun _ _ _ h => h) (Or.inl ⟨by rfl, ?_⟩) (by assumption) ?_
                      rotate_left
                      · (intro wx hSw; have k0 : wx.cell? ⟨G, 1, none⟩ = some (.int .u64 fb) := by rw [hSw.out]; exact HWs.out.2.1.drew'.cell 1
                         have k1 : wx.cell? ⟨G + 1, 1, none⟩ = some (.int .u64 y) := by rw [hSw.out]; exact HWs.out.2.2.1.drew'.cell 1
                         go_simp; (try with_reducible rfl))
                      (try simp only [Act.put, List.getElem_toArray, List.getElem_cons_zero, List.getElem_cons_succ, List.setIfInBounds_toArray, List.set_cons_zero, List.set_cons_succ])
                      refine wpAnyH_take (i := 15) (v := ?_) rfl (by kernel_rfl) (by kernel_rfl) (by kernel_rfl) (fun _ _ _ h => h) (Or.inl ⟨by rfl, ?_⟩) (by assumption) ?_
                      rotate_left
                      · (intro wx hSw; have k0 : wx.cell? ⟨G, 1, none⟩ = some (.int .u64 fb) := by rw [hSw.out]; exact HWs.out.2.1.drew'.cell 1
                         have k1 : wx.cell? ⟨G + 1, 1, none⟩ = some (.int .u64 y) := by rw [hSw.out]; exact HWs.out.2.2.1.drew'.cell 1
                         go_simp; (try with_reducible rfl))
                      (try simp only [Act.put, List.getElem_toArray, List.getElem_cons_zero, List.getElem_cons_succ, List.setIfInBounds_toArray, List.set_cons_zero, List.set_cons_succ])
                      refine wpAnyH_take (i := 16) (v := ?_) rfl (by kernel_rfl) (by kernel_rfl) (by kernel_rfl) (fun _ _ _ h => h) (Or.inl ⟨by rfl, ?_⟩) (by assumption) ?_
                      rotate_left
                      · (intro wx hSw; have k0 : wx.cell? ⟨G, 1, none⟩ = some (.int .u64 fb) := by rw [hSw.out]; exact HWs.out.2.1.drew'.cell 1
                         have k1 : wx.cell? ⟨G + 1, 1, none⟩ = some (.int .u64 y) := by rw [hSw.out]; exact HWs.out.2.2.1.drew'.cell 1
                         go_simp; (try with_reducible rfl))
                      (try simp only [Act.put, List.getElem_toArray, List.getElem_cons_zero, List.getElem_cons_succ, List.setIfInBounds_toArray, List.set_cons_zero, List.set_cons_succ])
                      refine wpAnyH_done (by kernel_rfl) ?_ _
                      have HU := Lib.hid (HWs.out.below (W' := ws.drew) (Below.refl _ _).drew)
                      go_wp2_with fail
                      go_roundw
                      case rel => exact ⟨2, S ++ List.replicate m 1, fa, fb, 0, by omega, by go_num, by simp; omega, HJ, HU⟩
                      case measure => simp [intOf]
                · have h32a : (y - fb ≤ 32) = False := eq_false h32
                  have h32b : (32 < y - fb) = True := eq_true (by omega)
                  go_wp2_with fail
                  refine wp_region_held_drew (S := fun w' => Hid (w' = wr.drew)) (by kernel_rfl) (show Hid _ from Lib.hid rfl) (fun hHeld => ?_)
                  (try simp only [Act.put, List.getElem_toArray, List.getElem_cons_zero, List.getElem_cons_succ, List.setIfInBounds_toArray, List.set_cons_zero, List.set_cons_succ])
                  refine wpAnyH_take (i := 0) (v := ?_) rfl (by kernel_rfl) (by kernel_rfl) (by kernel_rfl) (fun _ _ _ h => h) (Or.inl ⟨by rfl, ?_⟩) (by assumption) ?_
                  rotate_left
                  · (intro wx hSw; have k0 : wx.cell? ⟨G, 1, none⟩ = some (.int .u64 fb) := by rw [hSw.out]; exact HW.out.2.1.drew'.cell 1
                     have k1 : wx.cell? ⟨G + 1, 1, none⟩ = some (.int .u64 y) := by rw [hSw.out]; exact HW.out.2.2.1.drew'.cell 1
                     go_simp; (try with_reducible rfl))
                  (try simp only [Act.put, List.getElem_toArray, List.getElem_cons_zero, List.getElem_cons_succ, List.setIfInBounds_toArray, List.set_cons_zero, List.set_cons_succ])
                  refine wpAnyH_take (i := 1) (v := ?_) rfl (by kernel_rfl) (by kernel_rfl) (by kernel_rfl) (fun _ _ _ h => h) (Or.inl ⟨by rfl, ?_⟩) (by assumption) ?_
                  rotate_left
                  · (intro wx hSw; have k0 : wx.cell? ⟨G, 1, none⟩ = some (.int .u64 fb) := by rw [hSw.out]; exact HW.out.2.1.drew'.cell 1
                     have k1 : wx.cell? ⟨G + 1, 1, none⟩ = some (.int .u64 y) := by rw [hSw.out]; exact HW.out.2.2.1.drew'.cell 1
                     go_simp; (try with_reducible rfl))
                  (try simp only [Act.put, List.getElem_toArray, List.getElem_cons_zero, List.getElem_cons_succ, List.setIfInBounds_toArray, List.set_cons_zero, List.set_cons_succ])
                  refine wpAnyH_take (i := 2) (v := ?_) rfl (by kernel_rfl) (by kernel_rfl) (by kernel_rfl) (fun _ _ _ h => h) (Or.inl ⟨by rfl, ?_⟩) (by assumption) ?_
                  rotate_left
                  · (intro wx hSw; have k0 : wx.cell? ⟨G, 1, none⟩ = some (.int .u64 fb) := by rw [hSw.out]; exact HW.out.2.1.drew'.cell 1
                     have k1 : wx.cell? ⟨G + 1, 1, none⟩ = some (.int .u64 y) := by rw [hSw.out]; exact HW.out.2.2.1.drew'.cell 1
                     go_simp; (try with_reducible rfl))
                  (try simp only [Act.put, List.getElem_toArray, List.getElem_cons_zero, List.getElem_cons_succ, List.setIfInBounds_toArray, List.set_cons_zero, List.set_cons_succ])
                  refine wpAnyH_take (i := 3) (v := ?_) rfl (by kernel_rfl) (by kernel_rfl) (by kernel_rfl) (fun _ _ _ h => h) (Or.inl ⟨by rfl, ?_⟩) (by assumption) ?_
                  rotate_left
                  · (intro wx hSw; have k0 : wx.cell? ⟨G, 1, none⟩ = some (.int .u64 fb) := by rw [hSw.out]; exact HW.out.2.1.drew'.cell 1
                     have k1 : wx.cell? ⟨G + 1, 1, none⟩ = some (.int .u64 y) := by rw [hSw.out]; exact HW.out.2.2.1.drew'.cell 1
                     go_simp; (try with_reducible rfl))
                  (try simp only [Act.put, List.getElem_toArray, List.getElem_cons_zero, List.getElem_cons_succ, List.setIfInBounds_toArray, List.set_cons_zero, List.set_cons_succ])
                  refine wpAnyH_take (i := 4) (v := ?_) rfl (by kernel_rfl) (by kernel_rfl) (by kernel_rfl) (fun _ _ _ h => h) (Or.inl ⟨by rfl, ?_⟩) (by assumption) ?_
                  rotate_left
                  · (intro wx hSw; have k0 : wx.cell? ⟨G, 1, none⟩ = some (.int .u64 fb) := by rw [hSw.out]; exact HW.out.2.1.drew'.cell 1
                     have k1 : wx.cell? ⟨G + 1, 1, none⟩ = some (.int .u64 y) := by rw [hSw.out]; exact HW.out.2.2.1.drew'.cell 1
                     go_simp; (try with_reducible rfl))
                  (try simp only [Act.put, List.getElem_toArray, List.getElem_cons_zero, List.getElem_cons_succ, List.setIfInBounds_toArray, List.set_cons_zero, List.set_cons_succ])
                  refine wpAnyH_take (i := 5) (v := ?_) rfl (by kernel_rfl) (by kernel_rfl) (by kernel_rfl) (fun _ _ _ h => h) (Or.inl ⟨by rfl, ?_⟩) (by assumption) ?_
                  rotate_left
                  · (intro wx hSw; have k0 : wx.cell? ⟨G, 1, none⟩ = some (.int .u64 fb) := by rw [hSw.out]; exact HW.out.2.1.drew'.cell 1
                     have k1 : wx.cell? ⟨G + 1, 1, none⟩ = some (.int .u64 y) := by rw [hSw.out]; exact HW.out.2.2.1.drew'.cell 1
                     go_simp; (try with_reducible rfl))
                  (try simp only [Act.put, List.getElem_toArray, List.getElem_cons_zero, List.getElem_cons_succ, List.setIfInBounds_toArray, List.set_cons_zero, List.set_cons_succ])
                  refine wpAnyH_take (i := 6) (v := ?_) rfl (by kernel_rfl) (by kernel_rfl) (by kernel_rfl) (fun _ _ _ h => h) (Or.inl ⟨by rfl, ?_⟩) (by assumption) ?_
                  rotate_left
                  · (intro wx hSw; have k0 : wx.cell? ⟨G, 1, none⟩ = some (.int .u64 fb) := by rw [hSw.out]; exact HW.out.2.1.drew'.cell 1
                     have k1 : wx.cell? ⟨G + 1, 1, none⟩ = some (.int .u64 y) := by rw [hSw.out]; exact HW.out.2.2.1.drew'.cell 1
                     go_simp; (try with_reducible rfl))
                  (try simp only [Act.put, List.getElem_toArray, List.getElem_cons_zero, List.getElem_cons_succ, List.setIfInBounds_toArray, List.set_cons_zero, List.set_cons_succ])
                  refine wpAnyH_take (i := 7) (v := ?_) rfl (by kernel_rfl) (by kernel_rfl) (by kernel_rfl) (fun _ _ _ h => h) (Or.inl ⟨by rfl, ?_⟩) (by assumption) ?_
                  rotate_left
                  · (intro wx hSw; have k0 : wx.cell? ⟨G, 1, none⟩ = some (.int .u64 fb) := by rw [hSw.out]; exact HW.out.2.1.drew'.cell 1
                     have k1 : wx.cell? ⟨G + 1, 1, none⟩ = some (.int .u64 y) := by rw [hSw.out]; exact HW.out.2.2.1.drew'.cell 1
                     go_simp; (try with_reducible rfl))
                  (try simp only [Act.put, List.getElem_toArray, List.getElem_cons_zero, List.getElem_cons_succ, List.setIfInBounds_toArray, List.set_cons_zero, List.set_cons_succ])
                  refine wpAnyH_take (i := 8) (v := ?_) rfl (by kernel_rfl) (by kernel_rfl) (by kernel_rfl) (fun _ _ _ h => h) (Or.inl ⟨by rfl, ?_⟩) (by assumption) ?_
                  rotate_left
                  · (intro wx hSw; have k0 : wx.cell? ⟨G, 1, none⟩ = some (.int .u64 fb) := by rw [hSw.out]; exact HW.out.2.1.drew'.cell 1
                     have k1 : wx.cell? ⟨G + 1, 1, none⟩ = some (.int .u64 y) := by rw [hSw.out]; exact HW.out.2.2.1.drew'.cell 1
                     go_simp; (try with_reducible rfl))
                  (try simp only [Act.put, List.getElem_toArray, List.getElem_cons_zero, List.getElem_cons_succ, List.setIfInBounds_toArray, List.set_cons_zero, List.set_cons_succ])
                  refine wpAnyH_take (i := 9) (v := ?_) rfl (by kernel_rfl) (by kernel_rfl) (by kernel_rfl) (fun _ _ _ h => h) (Or.inl ⟨by rfl, ?_⟩) (by assumption) ?_
                  rotate_left
                  · (intro wx hSw; have k0 : wx.cell? ⟨G, 1, none⟩ = some (.int .u64 fb) := by rw [hSw.out]; exact HW.out.2.1.drew'.cell 1
                     have k1 : wx.cell? ⟨G + 1, 1, none⟩ = some (.int .u64 y) := by rw [hSw.out]; exact HW.out.2.2.1.drew'.cell 1
                     go_simp; (try with_reducible rfl))
                  (try simp only [Act.put, List.getElem_toArray, List.getElem_cons_zero, List.getElem_cons_succ, List.setIfInBounds_toArray, List.set_cons_zero, List.set_cons_succ])
                  refine wpAnyH_take (i := 10) (v := ?_) rfl (by kernel_rfl) (by kernel_rfl) (by kernel_rfl) (fun _ _ _ h => h) (Or.inl ⟨by rfl, ?_⟩) (by assumption) ?_
                  rotate_left
                  · (intro wx hSw; have k0 : wx.cell? ⟨G, 1, none⟩ = some (.int .u64 fb) := by rw [hSw.out]; exact HW.out.2.1.drew'.cell 1
                     have k1 : wx.cell? ⟨G + 1, 1, none⟩ = some (.int .u64 y) := by rw [hSw.out]; exact HW.out.2.2.1.drew'.cell 1
                     go_simp; (try with_reducible rfl))
                  (try simp only [Act.put, List.getElem_toArray, List.getElem_cons_zero, List.getElem_cons_succ, List.setIfInBounds_toArray, List.set_cons_zero, List.set_cons_succ])
                  refine wpAnyH_take (i := 11) (v := ?_) rfl (by kernel_rfl) (by kernel_rfl) (by kernel_rfl) (fun _ _ _ h => h) (Or.inl ⟨by rfl, ?_⟩) (by assumption) ?_
                  rotate_left
                  · (intro wx hSw; have k0 : wx.cell? ⟨G, 1, none⟩ = some (.int .u64 fb) := by rw [hSw.out]; exact HW.out.2.1.drew'.cell 1
                     have k1 : wx.cell? ⟨G + 1, 1, none⟩ = some (.int .u64 y) := by rw [hSw.out]; exact HW.out.2.2.1.drew'.cell 1
                     go_simp; (try with_reducible rfl))
                  (try simp only [Act.put, List.getElem_toArray, List.getElem_cons_zero, List.getElem_cons_succ, List.setIfInBounds_toArray, List.set_cons_zero, List.set_cons_succ])
                  refine wpAnyH_take (i := 12) (v := ?_) rfl (by kernel_rfl) (by kernel_rfl) (by kernel_rfl) (fun _ _ _ h => h) (Or.inl ⟨by rfl, ?_⟩) (by assumption) ?_
                  rotate_left
                  · (intro wx hSw; have k0 : wx.cell? ⟨G, 1, none⟩ = some (.int .u64 fb) := by rw [hSw.out]; exact HW.out.2.1.drew'.cell 1
                     have k1 : wx.cell? ⟨G + 1, 1, none⟩ = some (.int .u64 y) := by rw [hSw.out]; exact HW.out.2.2.1.drew'.cell 1
                     go_simp; (try with_reducible rfl))
                  (try simp only [Act.put, List.getElem_toArray, List.getElem_cons_zero, List.getElem_cons_succ, List.setIfInBounds_toArray, List.set_cons_zero, List.set_cons_succ])
                  refine wpAnyH_take (i := 13) (v := ?_) rfl (by kernel_rfl) (by kernel_rfl) (by kernel_rfl) (fun _ _ _ h => h) (Or.inl ⟨by rfl, ?_⟩) (by assumption) ?_
                  rotate_left
                  · (intro wx hSw; have k0 : wx.cell? ⟨G, 1, none⟩ = some (.int .u64 fb) := by rw [hSw.out]; exact HW.out.2.1.drew'.cell 1
                     have k1 : wx.cell? ⟨G + 1, 1, none⟩ = some (.int .u64 y) := by rw [hSw.out]; exact HW.out.2.2.1.drew'.cell 1
                     go_simp; (try with_reducible rfl))
                  (try simp only [Act.put, List.getElem_toArray, List.getElem_cons_zero, List.getElem_cons_succ, List.setIfInBounds_toArray, List.set_cons_zero, List.set_cons_succ])
                  refine wpAnyH_take (i := 14) (v := ?_) rfl (by kernel_rfl) (by kernel_rfl) (by kernel_rfl) (fun _ _ _ h => h) (Or.inl ⟨by rfl, ?_⟩) (by assumption) ?_
                  rotate_left
                  · (intro wx hSw; have k0 : wx.cell? ⟨G, 1, none⟩ = some (.int .u64 fb) := by rw [hSw.out]; exact HW.out.2.1.drew'.cell 1
                     have k1 : wx.cell? ⟨G + 1, 1, none⟩ = some (.int .u64 y) := by rw [hSw.out]; exact HW.out.2.2.1.drew'.cell 1
                     go_simp; (try with_reducible rfl))
                  (try simp only [Act.put, List.getElem_toArray, List.getElem_cons_zero, List.getElem_cons_succ, List.setIfInBounds_toArray, List.set_cons_zero, List.set_cons_succ])
                  refine wpAnyH_take (i := 15) (v := ?_) rfl (by kernel_rfl) (by kernel_rfl) (by kernel_rfl) (fun _ _ _ h => h) (Or.inl ⟨by rfl, ?_⟩) (by assumption) ?_
                  rotate_left
                  · (intro wx hSw; have k0 : wx.cell? ⟨G, 1, none⟩ = some (.int .u64 fb) := by rw [hSw.out]; exact HW.out.2.1.drew'.cell 1
                     have k1 : wx.cell? ⟨G + 1, 1, none⟩ = some (.int .u64 y) := by rw [hSw.out]; exact HW.out.2.2.1.drew'.cell 1
                     go_simp; (try with_reducible rfl))
                  (try simp only [Act.put, List.getElem_toArray, List.getElem_cons_zero, List.getElem_cons_succ, List.setIfInBounds_toArray, List.set_cons_zero, List.set_cons_succ])
                  refine wpAnyH_take (i := 16) (v := ?_) rfl (by kernel_rfl) (by kernel_rfl) (by kernel_rfl) (fun _ _ _ h => h) (Or.inl ⟨by rfl, ?_⟩) (by assumption) ?_
                  rotate_left
                  · (intro wx hSw; have k0 : wx.cell? ⟨G, 1, none⟩ = some (.int .u64 fb) := by rw [hSw.out]; exact HW.out.2.1.drew'.cell 1
                     have k1 : wx.cell? ⟨G + 1, 1, none⟩ = some (.int .u64 y) := by rw [hSw.out]; exact HW.out.2.2.1.drew'.cell 1
                     go_simp; (try with_reducible rfl))
                  (try simp only [Act.put, List.getElem_toArray, List.getElem_cons_zero, List.getElem_cons_succ, List.setIfInBounds_toArray, List.set_cons_zero, List.set_cons_succ])
                  refine wpAnyH_done (by kernel_rfl) ?_ _
                  have HV := Lib.hid (HW.out.below (W' := wr.drew) (Below.refl _ _).drew)
                  go_wp2_with fail
                  refine wp_region_held_drew (S := fun w' => Hid (w' = wr.drew.drew)) (by kernel_rfl) (show Hid _ from Lib.hid rfl) (fun hHeld => ?_)
                  (try simp only [Act.put, List.getElem_toArray, List.getElem_cons_zero, List.getElem_cons_succ, List.setIfInBounds_toArray, List.set_cons_zero, List.set_cons_succ])
                  refine wpAnyH_take (i := 0) (v := ?_) rfl (by kernel_rfl) (by kernel_rfl) (by kernel_rfl) (fun _ _ _ h => h) (Or.inl ⟨by rfl, ?_⟩) (by assumption) ?_
                  rotate_left
                  · (intro wx hSw; have k0 : wx.cell? ⟨G, 1, none⟩ = some (.int .u64 fb) := by rw [hSw.out]; exact HV.out.2.1.drew'.cell 1
                     have k1 : wx.cell? ⟨G + 1, 1, none⟩ = some (.int .u64 y) := by rw [hSw.out]; exact HV.out.2.2.1.drew'.cell 1
                     go_simp; (try with_reducible rfl))
                  (try simp only [Act.put, List.getElem_toArray, List.getElem_cons_zero, List.getElem_cons_succ, List.setIfInBounds_toArray, List.set_cons_zero, List.set_cons_succ])
                  refine wpAnyH_take (i := 1) (v := ?_) rfl (by kernel_rfl) (by kernel_rfl) (by kernel_rfl) (fun _ _ _ h => h) (Or.inl ⟨by rfl, ?_⟩) (by assumption) ?_
                  rotate_left
                  · (intro wx hSw; have k0 : wx.cell? ⟨G, 1, none⟩ = some (.int .u64 fb) := by rw [hSw.out]; exact HV.out.2.1.drew'.cell 1
                     have k1 : wx.cell? ⟨G + 1, 1, none⟩ = some (.int .u64 y) := by rw [hSw.out]; exact HV.out.2.2.1.drew'.cell 1
                     go_simp; (try with_reducible rfl))
                  (try simp only [Act.put, List.getElem_toArray, List.getElem_cons_zero, List.getElem_cons_succ, List.setIfInBounds_toArray, List.set_cons_zero, List.set_cons_succ])
                  refine wpAnyH_take (i := 2) (v := ?_) rfl (by kernel_rfl) (by kernel_rfl) (by kernel_rfl) (fun _ _ _ h => h) (Or.inl ⟨by rfl, ?_⟩) (by assumption) ?_
                  rotate_left
                  · (intro wx hSw; have k0 : wx.cell? ⟨G, 1, none⟩ = some (.int .u64 fb) := by rw [hSw.out]; exact HV.out.2.1.drew'.cell 1
                     have k1 : wx.cell? ⟨G + 1, 1, none⟩ = some (.int .u64 y) := by rw [hSw.out]; exact HV.out.2.2.1.drew'.cell 1
                     go_simp; (try with_reducible rfl))
                  (try simp only [Act.put, List.getElem_toArray, List.getElem_cons_zero, List.getElem_cons_succ, List.setIfInBounds_toArray, List.set_cons_zero, List.set_cons_succ])
                  refine wpAnyH_take (i := 3) (v := ?_) rfl (by kernel_rfl) (by kernel_rfl) (by kernel_rfl) (fun _ _ _ h => h) (Or.inl ⟨by rfl, ?_⟩) (by assumption) ?_
                  rotate_left
                  · (intro wx hSw; have k0 : wx.cell? ⟨G, 1, none⟩ = some (.int .u64 fb) := by rw [hSw.out]; exact HV.out.2.1.drew'.cell 1
                     have k1 : wx.cell? ⟨G + 1, 1, none⟩ = some (.int .u64 y) := by rw [hSw.out]; exact HV.out.2.2.1.drew'.cell 1
                     go_simp; (try with_reducible rfl))
                  (try simp only [Act.put, List.getElem_toArray, List.getElem_cons_zero, List.getElem_cons_succ, List.setIfInBounds_toArray, List.set_cons_zero, List.set_cons_succ])
                  refine wpAnyH_take (i := 4) (v := ?_) rfl (by kernel_rfl) (by kernel_rfl) (by kernel_rfl) (fun _ _ _ h => h) (Or.inl ⟨by rfl, ?_⟩) (by assumption) ?_
                  rotate_left
                  · (intro wx hSw; have k0 : wx.cell? ⟨G, 1, none⟩ = some (.int .u64 fb) := by rw [hSw.out]; exact HV.out.2.1.drew'.cell 1
                     have k1 : wx.cell? ⟨G + 1, 1, none⟩ = some (.int .u64 y) := by rw [hSw.out]; exact HV.out.2.2.1.drew'.cell 1
                     go_simp; (try with_reducible rfl))
                  (try simp only [Act.put, List.getElem_toArray, List.getElem_cons_zero, List.getElem_cons_succ, List.setIfInBounds_toArray, List.set_cons_zero, List.set_cons_succ])
                  refine wpAnyH_take (i := 5) (v := ?_) rfl (by kernel_rfl) (by kernel_rfl) (by kernel_rfl) (fun _ _ _ h => h) (Or.inl ⟨by rfl, ?_⟩) (by assumption) ?_
                  rotate_left
                  · (intro wx hSw; have k0 : wx.cell? ⟨G, 1, none⟩ = some (.int .u64 fb) := by rw [hSw.out]; exact HV.out.2.1.drew'.cell 1
                     have k1 : wx.cell? ⟨G + 1, 1, none⟩ = some (.int .u64 y) := by rw [hSw.out]; exact HV.out.2.2.1.drew'.cell 1
                     go_simp; (try with_reducible rfl))
                  (try simp only [Act.put, List.getElem_toArray, List.getElem_cons_zero, List.getElem_cons_succ, List.setIfInBounds_toArray, List.set_cons_zero, List.set_cons_succ])
                  refine wpAnyH_take (i := 6) (v := ?_) rfl (by kernel_rfl) (by kernel_rfl) (by kernel_rfl) (fun _ _ _ h => h) (Or.inl ⟨by rfl, ?_⟩) (by assumption) ?_
                  rotate_left
                  · (intro wx hSw; have k0 : wx.cell? ⟨G, 1, none⟩ = some (.int .u64 fb) := by rw [hSw.out]; exact HV.out.2.1.drew'.cell 1
                     have k1 : wx.cell? ⟨G + 1, 1, none⟩ = some (.int .u64 y) := by rw [hSw.out]; exact HV.out.2.2.1.drew'.cell 1
                     go_simp; (try with_reducible rfl))
                  (try simp only [Act.put, List.getElem_toArray, List.getElem_cons_zero, List.getElem_cons_succ, List.setIfInBounds_toArray, List.set_cons_zero, List.set_cons_succ])
                  refine wpAnyH_take (i := 7) (v := ?_) rfl (by kernel_rfl) (by kernel_rfl) (by kernel_rfl) (fun _ _ _ h => h) (Or.inl ⟨by rfl, ?_⟩) (by assumption) ?_
                  rotate_left
                  · (intro wx hSw; have k0 : wx.cell? ⟨G, 1, none⟩ = some (.int .u64 fb) := by rw [hSw.out]; exact HV.out.2.1.drew'.cell 1
                     have k1 : wx.cell? ⟨G + 1, 1, none⟩ = some (.int .u64 y) := by rw [hSw.out]; exact HV.out.2.2.1.drew'.cell 1
                     go_simp; (try with_reducible rfl))
                  (try simp only [Act.put, List.getElem_toArray, List.getElem_cons_zero, List.getElem_cons_succ, List.setIfInBounds_toArray, List.set_cons_zero, List.set_cons_succ])
                  refine wpAnyH_take (i := 8) (v := ?_) rfl (by kernel_rfl) (by kernel_rfl) (by kernel_rfl) (fun _ _ _ h => h) (Or.inl ⟨by rfl, ?_⟩) (by assumption) ?_
                  rotate_left
                  · (intro wx hSw; have k0 : wx.cell? ⟨G, 1, none⟩ = some (.int .u64 fb) := by rw [hSw.out]; exact HV.out.2.1.drew'.cell 1
                     have k1 : wx.cell? ⟨G + 1, 1, none⟩ = some (.int .u64 y) := by rw [hSw.out]; exact HV.out.2.2.1.drew'.cell 1
                     go_simp; (try with_reducible rfl))
                  (try simp only [Act.put, List.getElem_toArray, List.getElem_cons_zero, List.getElem_cons_succ, List.setIfInBounds_toArray, List.set_cons_zero, List.set_cons_succ])
                  refine wpAnyH_take (i := 9) (v := ?_) rfl (by kernel_rfl) (by kernel_rfl) (by kernel_rfl) (fun _ _ _ h => h) (Or.inl ⟨by rfl, ?_⟩) (by assumption) ?_
                  rotate_left
                  · (intro wx hSw; have k0 : wx.cell? ⟨G, 1, none⟩ = some (.int .u64 fb) := by rw [hSw.out]; exact HV.out.2.1.drew'.cell 1
                     have k1 : wx.cell? ⟨G + 1, 1, none⟩ = some (.int .u64 y) := by rw [hSw.out]; exact HV.out.2.2.1.drew'.cell 1
                     go_simp; (try with_reducible rfl))
                  (try simp only [Act.put, List.getElem_toArray, List.getElem_cons_zero, List.getElem_cons_succ, List.setIfInBounds_toArray, List.set_cons_zero, List.set_cons_succ])
                  refine wpAnyH_take (i := 10) (v := ?_) rfl (by kernel_rfl) (by kernel_rfl) (by kernel_rfl) (fun _ _ _ h => h) (Or.inl ⟨by rfl, ?_⟩) (by assumption) ?_
                  rotate_left
                  · (intro wx hSw; have k0 : wx.cell? ⟨G, 1, none⟩ = some (.int .u64 fb) := by rw [hSw.out]; exact HV.out.2.1.drew'.cell 1
                     have k1 : wx.cell? ⟨G + 1, 1, none⟩ = some (.int .u64 y) := by rw [hSw.out]; exact HV.out.2.2.1.drew'.cell 1
                     go_simp; (try with_reducible rfl))
                  (try simp only [Act.put, List.getElem_toArray, List.getElem_cons_zero, List.getElem_cons_succ, List.setIfInBounds_toArray, List.set_cons_zero, List.set_cons_succ])
                  refine wpAnyH_take (i := 11) (v := ?_) rfl (by kernel_rfl) (by kernel_rfl) (by kernel_rfl) (fun _ _ _ h => h) (Or.inl ⟨by rfl, ?_⟩) (by assumption) ?_
                  rotate_left
                  · (intro wx hSw; have k0 : wx.cell? ⟨G, 1, none⟩ = some (.int .u64 fb) := by rw [hSw.out]; exact HV.out.2.1.drew'.cell 1
                     have k1 : wx.cell? ⟨G + 1, 1, none⟩ = some (.int .u64 y) := by rw [hSw.out]; exact HV.out.2.2.1.drew'.cell 1
                     go_simp; (try with_reducible rfl))
                  (try simp only [Act.put, List.getElem_toArray, List.getElem_cons_zero, List.getElem_cons_succ, List.setIfInBounds_toArray, List.set_cons_zero, List.set_cons_succ])
                  refine wpAnyH_take (i := 12) (v := ?_) rfl (by kernel_rfl) (by kernel_rfl) (by kernel_rfl) (fun _ _ _ h => h) (Or.inl ⟨by rfl, ?_⟩) (by assumption) ?_
                  rotate_left
                  · (intro wx hSw; have k0 : wx.cell? ⟨G, 1, none⟩ = some (.int .u64 fb) := by rw [hSw.out]; exact HV.out.2.1.drew'.cell 1
                     have k1 : wx.cell? ⟨G + 1, 1, none⟩ = some (.int .u64 y) := by rw [hSw.out]; exact HV.out.2.2.1.drew'.cell 1
                     go_simp; (try with_reducible rfl))
                  (try simp only [Act.put, List.getElem_toArray, List.getElem_cons_zero, List.getElem_cons_succ, List.setIfInBounds_toArray, List.set_cons_zero, List.set_cons_succ])
                  refine wpAnyH_take (i := 13) (v := ?_) rfl (by kernel_rfl) (by kernel_rfl) (by kernel_rfl) (fun _ _ _ h => h) (Or.inl ⟨by rfl, ?_⟩) (by assumption) ?_
                  rotate_left
                  · (intro wx hSw; have k0 : wx.cell? ⟨G, 1, none⟩ = some (.int .u64 fb) := by rw [hSw.out]; exact HV.out.2.1.drew'.cell 1
                     have k1 : wx.cell? ⟨G + 1, 1, none⟩ = some (.int .u64 y) := by rw [hSw.out]; exact HV.out.2.2.1.drew'.cell 1
                     go_simp; (try with_reducible rfl))
                  (try simp only [Act.put, List.getElem_toArray, List.getElem_cons_zero, List.getElem_cons_succ, List.setIfInBounds_toArray, List.set_cons_zero, List.set_cons_succ])
                  refine wpAnyH_take (i := 14) (v := ?_) rfl (by kernel_rfl) (by kernel_rfl) (by kernel_rfl) (fun _ _ _ h => h) (Or.inl ⟨by rfl, ?_⟩) (by assumption) ?_
                  rotate_left
                  · (intro wx hSw; have k0 : wx.cell? ⟨G, 1, none⟩ = some (.int .u64 fb) := by rw [hSw.out]; exact HV.out.2.1.drew'.cell 1
                     have k1 : wx.cell? ⟨G + 1, 1, none⟩ = some (.int .u64 y) := by rw [hSw.out]; exact HV.out.2.2.1.drew'.cell 1
                     go_simp; (try with_reducible rfl))
                  (try simp only [Act.put, List.getElem_toArray, List.getElem_cons_zero, List.getElem_cons_succ, List.setIfInBounds_toArray, List.set_cons_zero, List.set_cons_succ])
                  refine wpAnyH_take (i := 15) (v := ?_) rfl (by kernel_rfl) (by kernel_rfl) (by kernel_rfl) (fun _ _ _ h => h) (Or.inl ⟨by rfl, ?_⟩) (by assumption) ?_
                  rotate_left
                  · (intro wx hSw; have k0 : wx.cell? ⟨G, 1, none⟩ = some (.int .u64 fb) := by rw [hSw.out]; exact HV.out.2.1.drew'.cell 1
                     have k1 : wx.cell? ⟨G + 1, 1, none⟩ = some (.int .u64 y) := by rw [hSw.out]; exact HV.out.2.2.1.drew'.cell 1
                     go_simp; (try with_reducible rfl))
                  (try simp only [Act.put, List.getElem_toArray, List.getElem_cons_zero, List.getElem_cons_succ, List.setIfInBounds_toArray, List.set_cons_zero, List.set_cons_succ])
                  refine wpAnyH_take (i := 16) (v := ?_) rfl (by kernel_rfl) (by kernel_rfl) (by kernel_rfl) (fun _ _ _ h => h) (Or.inl ⟨by rfl, ?_⟩) (by assumption) ?_
                  rotate_left
                  · (intro wx hSw; have k0 : wx.cell? ⟨G, 1, none⟩ = some (.int .u64 fb) := by rw [hSw.out]; exact HV.out.2.1.drew'.cell 1
                     have k1 : wx.cell? ⟨G + 1, 1, none⟩ = some (.int .u64 y) := by rw [hSw.out]; exact HV.out.2.2.1.drew'.cell 1
                     go_simp; (try with_reducible rfl))
                  (try simp only [Act.put, List.getElem_toArray, List.getElem_cons_zero, List.getElem_cons_succ, List.setIfInBounds_toArray, List.set_cons_zero, List.set_cons_succ])
                  refine wpAnyH_done (by kernel_rfl) ?_ _
                  go_wp2_with fail
                  go_ret
                  exact ⟨rfl, HV.out.2.2.2.2.2.drew⟩
              · have hlt2 : (fb < y) = False := eq_false hlt
                go_wp2_with fail
                refine wp_region_held_drew (S := fun w' => Hid (w' = wr.drew)) (by kernel_rfl) (show Hid _ from Lib.hid rfl) (fun hHeld => ?_)
                (try simp only [Act.put, List.getElem_toArray, List.getElem_cons_zero, List.getElem_cons_succ, List.setIfInBounds_toArray, List.set_cons_zero, List.set_cons_succ])
                refine wpAnyH_take (i := 0) (v := ?_) rfl (by kernel_rfl) (by kernel_rfl) (by kernel_rfl) (fun _ _ _ h => h) (Or.inl ⟨by rfl, ?_⟩) (by assumption) ?_
                rotate_left
                · (intro wx hSw; have k0 : wx.cell? ⟨G, 1, none⟩ = some (.int .u64 fb) := by rw [hSw.out]; exact HW.out.2.1.drew'.cell 1
                   have k1 : wx.cell? ⟨G + 1, 1, none⟩ = some (.int .u64 y) := by rw [hSw.out]; exact HW.out.2.2.1.drew'.cell 1
                   go_simp; (try with_reducible rfl))
                (try simp only [Act.put, List.getElem_toArray, List.getElem_cons_zero, List.getElem_cons_succ, List.setIfInBounds_toArray, List.set_cons_zero, List.set_cons_succ])
                refine wpAnyH_take (i := 1) (v := ?_) rfl (by kernel_rfl) (by kernel_rfl) (by kernel_rfl) (fun _ _ _ h => h) (Or.inl ⟨by rfl, ?_⟩) (by assumption) ?_
                rotate_left
                · (intro wx hSw; have k0 : wx.cell? ⟨G, 1, none⟩ = some (.int .u64 fb) := by rw [hSw.out]; exact HW.out.2.1.drew'.cell 1
                   have k1 : wx.cell? ⟨G + 1, 1, none⟩ = some (.int .u64 y) := by rw [hSw.out]; exact HW.out.2.2.1.drew'.cell 1
                   go_simp; (try with_reducible rfl))
                (try simp only [Act.put, List.getElem_toArray, List.getElem_cons_zero, List.getElem_cons_succ, List.setIfInBounds_toArray, List.set_cons_zero, List.set_cons_succ])
                refine wpAnyH_take (i := 2) (v := ?_) rfl (by kernel_rfl) (by kernel_rfl) (by kernel_rfl) (fun _ _ _ h => h) (Or.inl ⟨by rfl, ?_⟩) (by assumption) ?_
                rotate_left
                · (intro wx hSw; have k0 : wx.cell? ⟨G, 1, none⟩ = some (.int .u64 fb) := by rw [hSw.out]; exact HW.out.2.1.drew'.cell 1
                   have k1 : wx.cell? ⟨G + 1, 1, none⟩ = some (.int .u64 y) := by rw [hSw.out]; exact HW.out.2.2.1.drew'.cell 1
                   go_simp; (try with_reducible rfl))
                (try simp only [Act.put, List.getElem_toArray, List.getElem_cons_zero, List.getElem_cons_succ, List.setIfInBounds_toArray, List.set_cons_zero, List.set_cons_succ])
                refine wpAnyH_take (i := 3) (v := ?_) rfl (by kernel_rfl) (by kernel_rfl) (by kernel_rfl) (fun _ _ _ h => h) (Or.inl ⟨by rfl, ?_⟩) (by assumption) ?_
                rotate_left
                · (intro wx hSw; have k0 : wx.cell? ⟨G, 1, none⟩ = some (.int .u64 fb) := by rw [hSw.out]; exact HW.out.2.1.drew'.cell 1
                   have k1 : wx.cell? ⟨G + 1, 1, none⟩ = some (.int .u64 y) := by rw [hSw.out]; exact HW.out.2.2.1.drew'.cell 1
                   go_simp; (try with_reducible rfl))
                (try simp only [Act.put, List.getElem_toArray, List.getElem_cons_zero, List.getElem_cons_succ, List.setIfInBounds_toArray, List.set_cons_zero, List.set_cons_succ])
                refine wpAnyH_take (i := 4) (v := ?_) rfl (by kernel_rfl) (by kernel_rfl) (by kernel_rfl) (fun _ _ _ h => h) (Or.inl ⟨by rfl, ?_⟩) (by assumption) ?_
                rotate_left
                · (intro wx hSw; have k0 : wx.cell? ⟨G, 1, none⟩ = some (.int .u64 fb) := by rw [hSw.out]; exact HW.out.2.1.drew'.cell 1
                   have k1 : wx.cell? ⟨G + 1, 1, none⟩ = some (.int .u64 y) := by rw [hSw.out]; exact HW.out.2.2.1.drew'.cell 1
                   go_simp; (try with_reducible rfl))
                (try simp only [Act.put, List.getElem_toArray, List.getElem_cons_zero, List.getElem_cons_succ, List.setIfInBounds_toArray, List.set_cons_zero, List.set_cons_succ])
                refine wpAnyH_take (i := 5) (v := ?_) rfl (by kernel_rfl) (by kernel_rfl) (by kernel_rfl) (fun _ _ _ h => h) (Or.inl ⟨by rfl, ?_⟩) (by assumption) ?_
                rotate_left
                · (intro wx hSw; have k0 : wx.cell? ⟨G, 1, none⟩ = some (.int .u64 fb) := by rw [hSw.out]; exact HW.out.2.1.drew'.cell 1
                   have k1 : wx.cell? ⟨G + 1, 1, none⟩ = some (.int .u64 y) := by rw [hSw.out]; exact HW.out.2.2.1.drew'.cell 1
                   go_simp; (try with_reducible rfl))
                (try simp only [Act.put, List.getElem_toArray, List.getElem_cons_zero, List.getElem_cons_succ, List.setIfInBounds_toArray, List.set_cons_zero, List.set_cons_succ])
                refine wpAnyH_take (i := 6) (v := ?_) rfl (by kernel_rfl) (by kernel_rfl) (by kernel_rfl) (fun _ _ _ h => h) (Or.inl ⟨by rfl, ?_⟩) (by assumption) ?_
                rotate_left
                · (intro wx hSw; have k0 : wx.cell? ⟨G, 1, none⟩ = some (.int .u64 fb) := by rw [hSw.out]; exact HW.out.2.1.drew'.cell 1
                   have k1 : wx.cell? ⟨G + 1, 1, none⟩ = some (.int .u64 y) := by rw [hSw.out]; exact HW.out.2.2.1.drew'.cell 1
                   go_simp; (try with_reducible rfl))
                (try simp only [Act.put, List.getElem_toArray, List.getElem_cons_zero, List.getElem_cons_succ, List.setIfInBounds_toArray, List.set_cons_zero, List.set_cons_succ])
                refine wpAnyH_take (i := 7) (v := ?_) rfl (by kernel_rfl) (by kernel_rfl) (by kernel_rfl) (fun _ _ _ h => h) (Or.inl ⟨by rfl, ?_⟩) (by assumption) ?_
                rotate_left
                · (intro wx hSw; have k0 : wx.cell? ⟨G, 1, none⟩ = some (.int .u64 fb) := by rw [hSw.out]; exact HW.out.2.1.drew'.cell 1
                   have k1 : wx.cell? ⟨G + 1, 1, none⟩ = some (.int .u64 y) := by rw [hSw.out]; exact HW.out.2.2.1.drew'.cell 1
                   go_simp; (try with_reducible rfl))
                (try simp only [Act.put, List.getElem_toArray, List.getElem_cons_zero, List.getElem_cons_succ, List.setIfInBounds_toArray, List.set_cons_zero, List.set_cons_succ])
                refine wpAnyH_take (i := 8) (v := undef) rfl (by kernel_rfl) (by kernel_rfl) (by kernel_rfl) (fun _ _ _ h => h) (Or.inr ⟨by rfl, rfl⟩) (by assumption) ?_
                (try simp only [Act.put, List.getElem_toArray, List.getElem_cons_zero, List.getElem_cons_succ, List.setIfInBounds_toArray, List.set_cons_zero, List.set_cons_succ])
                refine wpAnyH_take (i := 9) (v := undef) rfl (by kernel_rfl) (by kernel_rfl) (by kernel_rfl) (fun _ _ _ h => h) (Or.inr ⟨by rfl, rfl⟩) (by assumption) ?_
                (try simp only [Act.put, List.getElem_toArray, List.getElem_cons_zero, List.getElem_cons_succ, List.setIfInBounds_toArray, List.set_cons_zero, List.set_cons_succ])
                refine wpAnyH_take (i := 10) (v := undef) rfl (by kernel_rfl) (by kernel_rfl) (by kernel_rfl) (fun _ _ _ h => h) (Or.inr ⟨by rfl, rfl⟩) (by assumption) ?_
                (try simp only [Act.put, List.getElem_toArray, List.getElem_cons_zero, List.getElem_cons_succ, List.setIfInBounds_toArray, List.set_cons_zero, List.set_cons_succ])
                refine wpAnyH_take (i := 11) (v := undef) rfl (by kernel_rfl) (by kernel_rfl) (by kernel_rfl) (fun _ _ _ h => h) (Or.inr ⟨by rfl, rfl⟩) (by assumption) ?_
                (try simp only [Act.put, List.getElem_toArray, List.getElem_cons_zero, List.getElem_cons_succ, List.setIfInBounds_toArray, List.set_cons_zero, List.set_cons_succ])
                refine wpAnyH_take (i := 12) (v := undef) rfl (by kernel_rfl) (by kernel_rfl) (by kernel_rfl) (fun _ _ _ h => h) (Or.inr ⟨by rfl, rfl⟩) (by assumption) ?_
                (try simp only [Act.put, List.getElem_toArray, List.getElem_cons_zero, List.getElem_cons_succ, List.setIfInBounds_toArray, List.set_cons_zero, List.set_cons_succ])
                refine wpAnyH_take (i := 13) (v := undef) rfl (by kernel_rfl) (by kernel_rfl) (by kernel_rfl) (fun _ _ _ h => h) (Or.inr ⟨by rfl, rfl⟩) (by assumption) ?_
                (try simp only [Act.put, List.getElem_toArray, List.getElem_cons_zero, List.getElem_cons_succ, List.setIfInBounds_toArray, List.set_cons_zero, List.set_cons_succ])
                refine wpAnyH_take (i := 14) (v := undef) rfl (by kernel_rfl) (by kernel_rfl) (by kernel_rfl) (fun _ _ _ h => h) (Or.inr ⟨by rfl, rfl⟩) (by assumption) ?_
                (try simp only [Act.put, List.getElem_toArray, List.getElem_cons_zero, List.getElem_cons_succ, List.setIfInBounds_toArray, List.set_cons_zero, List.set_cons_succ])
                refine wpAnyH_take (i := 15) (v := undef) rfl (by kernel_rfl) (by kernel_rfl) (by kernel_rfl) (fun _ _ _ h => h) (Or.inr ⟨by rfl, rfl⟩) (by assumption) ?_
                (try simp only [Act.put, List.getElem_toArray, List.getElem_cons_zero, List.getElem_cons_succ, List.setIfInBounds_toArray, List.set_cons_zero, List.set_cons_succ])
                refine wpAnyH_take (i := 16) (v := ?_) rfl (by kernel_rfl) (by kernel_rfl) (by kernel_rfl) (fun _ _ _ h => h) (Or.inl ⟨by rfl, ?_⟩) (by assumption) ?_
                rotate_left
                · (intro wx hSw; have k0 : wx.cell? ⟨G, 1, none⟩ = some (.int .u64 fb) := by rw [hSw.out]; exact HW.out.2.1.drew'.cell 1
                   have k1 : wx.cell? ⟨G + 1, 1, none⟩ = some (.int .u64 y) := by rw [hSw.out]; exact HW.out.2.2.1.drew'.cell 1
                   go_simp; (try with_reducible rfl))
                (try simp only [Act.put, List.getElem_toArray, List.getElem_cons_zero, List.getElem_cons_succ, List.setIfInBounds_toArray, List.set_cons_zero, List.set_cons_succ])
                refine wpAnyH_done (by kernel_rfl) ?_ _
                have HV := Lib.hid (HW.out.below (W' := wr.drew) (Below.refl _ _).drew)
                go_wp2_with fail
                refine wp_region_held_drew (S := fun w' => Hid (w' = wr.drew.drew)) (by kernel_rfl) (show Hid _ from Lib.hid rfl) (fun hHeld => ?_)
                (try simp only [Act.put, List.getElem_toArray, List.getElem_cons_zero, List.getElem_cons_succ, List.setIfInBounds_toArray, List.set_cons_zero, List.set_cons_succ])
                refine wpAnyH_take (i := 0) (v := ?_) rfl (by kernel_rfl) (by kernel_rfl) (by kernel_rfl) (fun _ _ _ h => h) (Or.inl ⟨by rfl, ?_⟩) (by assumption) ?_
                rotate_left
                · (intro wx hSw; have k0 : wx.cell? ⟨G, 1, none⟩ = some (.int .u64 fb) := by rw [hSw.out]; exact HV.out.2.1.drew'.cell 1
                   have k1 : wx.cell? ⟨G + 1, 1, none⟩ = some (.int .u64 y) := by rw [hSw.out]; exact HV.out.2.2.1.drew'.cell 1
                   go_simp; (try with_reducible rfl))
                (try simp only [Act.put, List.getElem_toArray, List.getElem_cons_zero, List.getElem_cons_succ, List.setIfInBounds_toArray, List.set_cons_zero, List.set_cons_succ])
                refine wpAnyH_take (i := 1) (v := ?_) rfl (by kernel_rfl) (by kernel_rfl) (by kernel_rfl) (fun _ _ _ h => h) (Or.inl ⟨by rfl, ?_⟩) (by assumption) ?_
                rotate_left
                · (intro wx hSw; have k0 : wx.cell? ⟨G, 1, none⟩ = some (.int .u64 fb) := by rw [hSw.out]; exact HV.out.2.1.drew'.cell 1
                   have k1 : wx.cell? ⟨G + 1, 1, none⟩ = some (.int .u64 y) := by rw [hSw.out]; exact HV.out.2.2.1.drew'.cell 1
                   go_simp; (try with_reducible rfl))
                (try simp only [Act.put, List.getElem_toArray, List.getElem_cons_zero, List.getElem_cons_succ, List.setIfInBounds_toArray, List.set_cons_zero, List.set_cons_succ])
                refine wpAnyH_take (i := 2) (v := ?_) rfl (by kernel_rfl) (by kernel_rfl) (by kernel_rfl) (fun _ _ _ h => h) (Or.inl ⟨by rfl, ?_⟩) (by assumption) ?_
                rotate_left
                · (intro wx hSw; have k0 : wx.cell? ⟨G, 1, none⟩ = some (.int .u64 fb) := by rw [hSw.out]; exact HV.out.2.1.drew'.cell 1
                   have k1 : wx.cell? ⟨G + 1, 1, none⟩ = some (.int .u64 y) := by rw [hSw.out]; exact HV.out.2.2.1.drew'.cell 1
                   go_simp; (try with_reducible rfl))
                (try simp only [Act.put, List.getElem_toArray, List.getElem_cons_zero, List.getElem_cons_succ, List.setIfInBounds_toArray, List.set_cons_zero, List.set_cons_succ])
                refine wpAnyH_take (i := 3) (v := ?_) rfl (by kernel_rfl) (by kernel_rfl) (by kernel_rfl) (fun _ _ _ h => h) (Or.inl ⟨by rfl, ?_⟩) (by assumption) ?_
                rotate_left
                · (intro wx hSw; have k0 : wx.cell? ⟨G, 1, none⟩ = some (.int .u64 fb) := by rw [hSw.out]; exact HV.out.2.1.drew'.cell 1
                   have k1 : wx.cell? ⟨G + 1, 1, none⟩ = some (.int .u64 y) := by rw [hSw.out]; exact HV.out.2.2.1.drew'.cell 1
                   go_simp; (try with_reducible rfl))
                (try simp only [Act.put, List.getElem_toArray, List.getElem_cons_zero, List.getElem_cons_succ, List.setIfInBounds_toArray, List.set_cons_zero, List.set_cons_succ])
                refine wpAnyH_take (i := 4) (v := ?_) rfl (by kernel_rfl) (by kernel_rfl) (by kernel_rfl) (fun _ _ _ h => h) (Or.inl ⟨by rfl, ?_⟩) (by assumption) ?_
                rotate_left
                · (intro wx hSw; have k0 : wx.cell? ⟨G, 1, none⟩ = some (.int .u64 fb) := by rw [hSw.out]; exact HV.out.2.1.drew'.cell 1
                   have k1 : wx.cell? ⟨G + 1, 1, none⟩ = some (.int .u64 y) := by rw [hSw.out]; exact HV.out.2.2.1.drew'.cell 1
                   go_simp; (try with_reducible rfl))
                (try simp only [Act.put, List.getElem_toArray, List.getElem_cons_zero, List.getElem_cons_succ, List.setIfInBounds_toArray, List.set_cons_zero, List.set_cons_succ])
                refine wpAnyH_take (i := 5) (v := ?_) rfl (by kernel_rfl) (by kernel_rfl) (by kernel_rfl) (fun _ _ _ h => h) (Or.inl ⟨by rfl, ?_⟩) (by assumption) ?_
                rotate_left
                · (intro wx hSw; have k0 : wx.cell? ⟨G, 1, none⟩ = some (.int .u64 fb) := by rw [hSw.out]; exact HV.out.2.1.drew'.cell 1
                   have k1 : wx.cell? ⟨G + 1, 1, none⟩ = some (.int .u64 y) := by rw [hSw.out]; exact HV.out.2.2.1.drew'.cell 1
                   go_simp; (try with_reducible rfl))
                (try simp only [Act.put, List.getElem_toArray, List.getElem_cons_zero, List.getElem_cons_succ, List.setIfInBounds_toArray, List.set_cons_zero, List.set_cons_succ])
                refine wpAnyH_take (i := 6) (v := ?_) rfl (by kernel_rfl) (by kernel_rfl) (by kernel_rfl) (fun _ _ _ h => h) (Or.inl ⟨by rfl, ?_⟩) (by assumption) ?_
                rotate_left
                · (intro wx hSw; have k0 : wx.cell? ⟨G, 1, none⟩ = some (.int .u64 fb) := by rw [hSw.out]; exact HV.out.2.1.drew'.cell 1
                   have k1 : wx.cell? ⟨G + 1, 1, none⟩ = some (.int .u64 y) := by rw [hSw.out]; exact HV.out.2.2.1.drew'.cell 1
                   go_simp; (try with_reducible rfl))
                (try simp only [Act.put, List.getElem_toArray, List.getElem_cons_zero, List.getElem_cons_succ, List.setIfInBounds_toArray, List.set_cons_zero, List.set_cons_succ])
                refine wpAnyH_take (i := 7) (v := ?_) rfl (by kernel_rfl) (by kernel_rfl) (by kernel_rfl) (fun _ _ _ h => h) (Or.inl ⟨by rfl, ?_⟩) (by assumption) ?_
                rotate_left
                · (intro wx hSw; have k0 : wx.cell? ⟨G, 1, none⟩ = some (.int .u64 fb) := by rw [hSw.out]; exact HV.out.2.1.drew'.cell 1
                   have k1 : wx.cell? ⟨G + 1, 1, none⟩ = some (.int .u64 y) := by rw [hSw.out]; exact HV.out.2.2.1.drew'.cell 1
                   go_simp; (try with_reducible rfl))
                (try simp only [Act.put, List.getElem_toArray, List.getElem_cons_zero, List.getElem_cons_succ, List.setIfInBounds_toArray, List.set_cons_zero, List.set_cons_succ])
                refine wpAnyH_take (i := 8) (v := undef) rfl (by kernel_rfl) (by kernel_rfl) (by kernel_rfl) (fun _ _ _ h => h) (Or.inr ⟨by rfl, rfl⟩) (by assumption) ?_
                (try simp only [Act.put, List.getElem_toArray, List.getElem_cons_zero, List.getElem_cons_succ, List.setIfInBounds_toArray, List.set_cons_zero, List.set_cons_succ])
                refine wpAnyH_take (i := 9) (v := undef) rfl (by kernel_rfl) (by kernel_rfl) (by kernel_rfl) (fun _ _ _ h => h) (Or.inr ⟨by rfl, rfl⟩) (by assumption) ?_
                (try simp only [Act.put, List.getElem_toArray, List.getElem_cons_zero, List.getElem_cons_succ, List.setIfInBounds_toArray, List.set_cons_zero, List.set_cons_succ])
                refine wpAnyH_take (i := 10) (v := undef) rfl (by kernel_rfl) (by kernel_rfl) (by kernel_rfl) (fun _ _ _ h => h) (Or.inr ⟨by rfl, rfl⟩) (by assumption) ?_
                (try simp only [Act.put, List.getElem_toArray, List.getElem_cons_zero, List.getElem_cons_succ, List.setIfInBounds_toArray, List.set_cons_zero, List.set_cons_succ])
                refine wpAnyH_take (i := 11) (v := undef) rfl (by kernel_rfl) (by kernel_rfl) (by kernel_rfl) (fun _ _ _ h => h) (Or.inr ⟨by rfl, rfl⟩) (by assumption) ?_
                (try simp only [Act.put, List.getElem_toArray, List.getElem_cons_zero, List.getElem_cons_succ, List.setIfInBounds_toArray, List.set_cons_zero, List.set_cons_succ])
                refine wpAnyH_take (i := 12) (v := undef) rfl (by kernel_rfl) (by kernel_rfl) (by kernel_rfl) (fun _ _ _ h => h) (Or.inr ⟨by rfl, rfl⟩) (by assumption) ?_
                (try simp only [Act.put, List.getElem_toArray, List.getElem_cons_zero, List.getElem_cons_succ, List.setIfInBounds_toArray, List.set_cons_zero, List.set_cons_succ])
                refine wpAnyH_take (i := 13) (v := undef) rfl (by kernel_rfl) (by kernel_rfl) (by kernel_rfl) (fun _ _ _ h => h) (Or.inr ⟨by rfl, rfl⟩) (by assumption) ?_
                (try simp only [Act.put, List.getElem_toArray, List.getElem_cons_zero, List.getElem_cons_succ, List.setIfInBounds_toArray, List.set_cons_zero, List.set_cons_succ])
                refine wpAnyH_take (i := 14) (v := undef) rfl (by kernel_rfl) (by kernel_rfl) (by kernel_rfl) (fun _ _ _ h => h) (Or.inr ⟨by rfl, rfl⟩) (by assumption) ?_
                (try simp only [Act.put, List.getElem_toArray, List.getElem_cons_zero, List.getElem_cons_succ, List.setIfInBounds_toArray, List.set_cons_zero, List.set_cons_succ])
                refine wpAnyH_take (i := 15) (v := undef) rfl (by kernel_rfl) (by kernel_rfl) (by kernel_rfl) (fun _ _ _ h => h) (Or.inr ⟨by rfl, rfl⟩) (by assumption) ?_
                (try simp only [Act.put, List.getElem_toArray, List.getElem_cons_zero, List.getElem_cons_succ, List.setIfInBounds_toArray, List.set_cons_zero, List.set_cons_succ])
                refine wpAnyH_take (i := 16) (v := ?_) rfl (by kernel_rfl) (by kernel_rfl) (by kernel_rfl) (fun _ _ _ h => h) (Or.inl ⟨by rfl, ?_⟩) (by assumption) ?_
                rotate_left
                · (intro wx hSw; have k0 : wx.cell? ⟨G, 1, none⟩ = some (.int .u64 fb) := by rw [hSw.out]; exact HV.out.2.1.drew'.cell 1
                   have k1 : wx.cell? ⟨G + 1, 1, none⟩ = some (.int .u64 y) := by rw [hSw.out]; exact HV.out.2.2.1.drew'.cell 1
                   go_simp; (try with_reducible rfl))
                (try simp only [Act.put, List.getElem_toArray, List.getElem_cons_zero, List.getElem_cons_succ, List.setIfInBounds_toArray, List.set_cons_zero, List.set_cons_succ])
                refine wpAnyH_done (by kernel_rfl) ?_ _
                have HU := Lib.hid (HV.out.below (W' := wr.drew.drew) (Below.refl _ _).drew)
                have HJ := Lib.hid (HI.out.stay1 (by show ¬ fb < y; omega))
                go_wp2_with fail
                go_roundw
                case rel => exact ⟨2, S, fa, fb, fc, by omega, by go_num, by omega, HJ, HU⟩
                case measure => simp [intOf]
            · have D0 : Hid ((0 ≤ fc ∧ fc < 18446744073709551616) ∧ (0 ≤ z ∧ z < 18446744073709551616)) := by
                obtain ⟨⟨F0, F1⟩, ⟨F2, F3⟩, F4, F5⟩ := HI.out.2.2.1
                obtain ⟨⟨T0, T1⟩, ⟨T2, T3⟩, T4, T5⟩ := hu.out
                exact ⟨⟨by assumption, by assumption⟩, ⟨by assumption, by assumption⟩⟩
              by_cases hlt : fc < z
              · have hlt2 : (fc < z) = True := eq_true hlt
                have wd : IntKind.u64.wrap (z - fc) = z - fc := by have := D0.out; rw [IntKind.wrap_u64]; omega
                by_cases h32 : z - fc ≤ 32
                · have h32a : (z - fc ≤ 32) = True := eq_true h32
                  have h32b : (32 < z - fc) = False := eq_false (by omega)
                  go_wp2_with fail
                  refine wp_region_held_drew (S := fun w' => Hid (w' = wr.drew)) (by kernel_rfl) (show Hid _ from Lib.hid rfl) (fun hHeld => ?_)
                  (try simp only [Act.put, List.getElem_toArray, List.getElem_cons_zero, List.getElem_cons_succ, List.setIfInBounds_toArray, List.set_cons_zero, List.set_cons_succ])
                  refine wpAnyH_take (i := 0) (v := ?_) rfl (by kernel_rfl) (by kernel_rfl) (by kernel_rfl) (fun _ _ _ h => h) (Or.inl ⟨by rfl, ?_⟩) (by assumption) ?_
                  rotate_left
                  · (intro wx hSw; have k0 : wx.cell? ⟨G, 2, none⟩ = some (.int .u64 fc) := by rw [hSw.out]; exact HW.out.2.1.drew'.cell 2
                     have k1 : wx.cell? ⟨G + 1, 2, none⟩ = some (.int .u64 z) := by rw [hSw.out]; exact HW.out.2.2.1.drew'.cell 2
                     go_simp; (try with_reducible rfl))
                  (try simp only [Act.put, List.getElem_toArray, List.getElem_cons_zero, List.getElem_cons_succ, List.setIfInBounds_toArray, List.set_cons_zero, List.set_cons_succ])
                  refine wpAnyH_take (i := 1) (v := ?_) rfl (by kernel_rfl) (by kernel_rfl) (by kernel_rfl) (fun _ _ _ h => h) (Or.inl ⟨by rfl, ?_⟩) (by assumption) ?_
                  rotate_left
                  · (intro wx hSw; have k0 : wx.cell? ⟨G, 2, none⟩ = some (.int .u64 fc) := by rw [hSw.out]; exact HW.out.2.1.drew'.cell 2
                     have k1 : wx.cell? ⟨G + 1, 2, none⟩ = some (.int .u64 z) := by rw [hSw.out]; exact HW.out.2.2.1.drew'.cell 2
                     go_simp; (try with_reducible rfl))
                  (try simp only [Act.put, List.getElem_toArray, List.getElem_cons_zero, List.getElem_cons_succ, List.setIfInBounds_toArray, List.set_cons_zero, List.set_cons_succ])
                  refine wpAnyH_take (i := 2) (v := ?_) rfl (by kernel_rfl) (by kernel_rfl) (by kernel_rfl) (fun _ _ _ h => h) (Or.inl ⟨by rfl, ?_⟩) (by assumption) ?_
                  rotate_left
                  · (intro wx hSw; have k0 : wx.cell? ⟨G, 2, none⟩ = some (.int .u64 fc) := by rw [hSw.out]; exact HW.out.2.1.drew'.cell 2
                     have k1 : wx.cell? ⟨G + 1, 2, none⟩ = some (.int .u64 z) := by rw [hSw.out]; exact HW.out.2.2.1.drew'.cell 2
                     go_simp; (try with_reducible rfl))
                  (try simp only [Act.put, List.getElem_toArray, List.getElem_cons_zero, List.getElem_cons_succ, List.setIfInBounds_toArray, List.set_cons_zero, List.set_cons_succ])
                  refine wpAnyH_take (i := 3) (v := ?_) rfl (by kernel_rfl) (by kernel_rfl) (by kernel_rfl) (fun _ _ _ h => h) (Or.inl ⟨by rfl, ?_⟩) (by assumption) ?_
                  rotate_left
                  · (intro wx hSw; have k0 : wx.cell? ⟨G, 2, none⟩ = some (.int .u64 fc) := by rw [hSw.out]; exact HW.out.2.1.drew'.cell 2
                     have k1 : wx.cell? ⟨G + 1, 2, none⟩ = some (.int .u64 z) := by rw [hSw.out]; exact HW.out.2.2.1.drew'.cell 2
                     go_simp; (try with_reducible rfl))
                  (try simp only [Act.put, List.getElem_toArray, List.getElem_cons_zero, List.getElem_cons_succ, List.setIfInBounds_toArray, List.set_cons_zero, List.set_cons_succ])
                  refine wpAnyH_take (i := 4) (v := ?_) rfl (by kernel_rfl) (by kernel_rfl) (by kernel_rfl) (fun _ _ _ h => h) (Or.inl ⟨by rfl, ?_⟩) (by assumption) ?_
                  rotate_left
                  · (intro wx hSw; have k0 : wx.cell? ⟨G, 2, none⟩ = some (.int .u64 fc) := by rw [hSw.out]; exact HW.out.2.1.drew'.cell 2
                     have k1 : wx.cell? ⟨G + 1, 2, none⟩ = some (.int .u64 z) := by rw [hSw.out]; exact HW.out.2.2.1.drew'.cell 2
                     go_simp; (try with_reducible rfl))
                  (try simp only [Act.put, List.getElem_toArray, List.getElem_cons_zero, List.getElem_cons_succ, List.setIfInBounds_toArray, List.set_cons_zero, List.set_cons_succ])
                  refine wpAnyH_take (i := 5) (v := ?_) rfl (by kernel_rfl) (by kernel_rfl) (by kernel_rfl) (fun _ _ _ h => h) (Or.inl ⟨by rfl, ?_⟩) (by assumption) ?_
                  rotate_left
                  · (intro wx hSw; have k0 : wx.cell? ⟨G, 2, none⟩ = some (.int .u64 fc) := by rw [hSw.out]; exact HW.out.2.1.drew'.cell 2
                     have k1 : wx.cell? ⟨G + 1, 2, none⟩ = some (.int .u64 z) := by rw [hSw.out]; exact HW.out.2.2.1.drew'.cell 2
                     go_simp; (try with_reducible rfl))
                  (try simp only [Act.put, List.getElem_toArray, List.getElem_cons_zero, List.getElem_cons_succ, List.setIfInBounds_toArray, List.set_cons_zero, List.set_cons_succ])
                  refine wpAnyH_take (i := 6) (v := ?_) rfl (by kernel_rfl) (by kernel_rfl) (by kernel_rfl) (fun _ _ _ h => h) (Or.inl ⟨by rfl, ?_⟩) (by assumption) ?_
                  rotate_left
                  · (intro wx hSw; have k0 : wx.cell? ⟨G, 2, none⟩ = some (.int .u64 fc) := by rw [hSw.out]; exact HW.out.2.1.drew'.cell 2
                     have k1 : wx.cell? ⟨G + 1, 2, none⟩ = some (.int .u64 z) := by rw [hSw.out]; exact HW.out.2.2.1.drew'.cell 2
                     go_simp; (try with_reducible rfl))
                  (try simp only [Act.put, List.getElem_toArray, List.getElem_cons_zero, List.getElem_cons_succ, List.setIfInBounds_toArray, List.set_cons_zero, List.set_cons_succ])
                  refine wpAnyH_take (i := 7) (v := ?_) rfl (by kernel_rfl) (by kernel_rfl) (by kernel_rfl) (fun _ _ _ h => h) (Or.inl ⟨by rfl, ?_⟩) (by assumption) ?_
                  rotate_left
                  · (intro wx hSw; have k0 : wx.cell? ⟨G, 2, none⟩ = some (.int .u64 fc) := by rw [hSw.out]; exact HW.out.2.1.drew'.cell 2
                     have k1 : wx.cell? ⟨G + 1, 2, none⟩ = some (.int .u64 z) := by rw [hSw.out]; exact HW.out.2.2.1.drew'.cell 2
                     go_simp; (try with_reducible rfl))
                  (try simp only [Act.put, List.getElem_toArray, List.getElem_cons_zero, List.getElem_cons_succ, List.setIfInBounds_toArray, List.set_cons_zero, List.set_cons_succ])
                  refine wpAnyH_take (i := 8) (v := ?_) rfl (by kernel_rfl) (by kernel_rfl) (by kernel_rfl) (fun _ _ _ h => h) (Or.inl ⟨by rfl, ?_⟩) (by assumption) ?_
                  rotate_left
                  · (intro wx hSw; have k0 : wx.cell? ⟨G, 2, none⟩ = some (.int .u64 fc) := by rw [hSw.out]; exact HW.out.2.1.drew'.cell 2
                     have k1 : wx.cell? ⟨G + 1, 2, none⟩ = some (.int .u64 z) := by rw [hSw.out]; exact HW.out.2.2.1.drew'.cell 2
                     go_simp; (try with_reducible rfl))
                  (try simp only [Act.put, List.getElem_toArray, List.getElem_cons_zero, List.getElem_cons_succ, List.setIfInBounds_toArray, List.set_cons_zero, List.set_cons_succ])
                  refine wpAnyH_take (i := 9) (v := ?_) rfl (by kernel_rfl) (by kernel_rfl) (by kernel_rfl) (fun _ _ _ h => h) (Or.inl ⟨by rfl, ?_⟩) (by assumption) ?_
                  rotate_left
                  · (intro wx hSw; have k0 : wx.cell? ⟨G, 2, none⟩ = some (.int .u64 fc) := by rw [hSw.out]; exact HW.out.2.1.drew'.cell 2
                     have k1 : wx.cell? ⟨G + 1, 2, none⟩ = some (.int .u64 z) := by rw [hSw.out]; exact HW.out.2.2.1.drew'.cell 2
                     go_simp; (try with_reducible rfl))
                  (try simp only [Act.put, List.getElem_toArray, List.getElem_cons_zero, List.getElem_cons_succ, List.setIfInBounds_toArray, List.set_cons_zero, List.set_cons_succ])
                  refine wpAnyH_take (i := 10) (v := ?_) rfl (by kernel_rfl) (by kernel_rfl) (by kernel_rfl) (fun _ _ _ h => h) (Or.inl ⟨by rfl, ?_⟩) (by assumption) ?_
                  rotate_left
                  · (intro wx hSw; have k0 : wx.cell? ⟨G, 2, none⟩ = some (.int .u64 fc) := by rw [hSw.out]; exact HW.out.2.1.drew'.cell 2
                     have k1 : wx.cell? ⟨G + 1, 2, none⟩ = some (.int .u64 z) := by rw [hSw.out]; exact HW.out.2.2.1.drew'.cell 2
                     go_simp; (try with_reducible rfl))
                  (try simp only [Act.put, List.getElem_toArray, List.getElem_cons_zero, List.getElem_cons_succ, List.setIfInBounds_toArray, List.set_cons_zero, List.set_cons_succ])
                  refine wpAnyH_take (i := 11) (v := ?_) rfl (by kernel_rfl) (by kernel_rfl) (by kernel_rfl) (fun _ _ _ h => h) (Or.inl ⟨by rfl, ?_⟩) (by assumption) ?_
                  rotate_left
                  · (intro wx hSw; have k0 : wx.cell? ⟨G, 2, none⟩ = some (.int .u64 fc) := by rw [hSw.out]; exact HW.out.2.1.drew'.cell 2
                     have k1 : wx.cell? ⟨G + 1, 2, none⟩ = some (.int .u64 z) := by rw [hSw.out]; exact HW.out.2.2.1.drew'.cell 2
                     go_simp; (try with_reducible rfl))
                  (try simp only [Act.put, List.getElem_toArray, List.getElem_cons_zero, List.getElem_cons_succ, List.setIfInBounds_toArray, List.set_cons_zero, List.set_cons_succ])
                  refine wpAnyH_take (i := 12) (v := ?_) rfl (by kernel_rfl) (by kernel_rfl) (by kernel_rfl) (fun _ _ _ h => h) (Or.inl ⟨by rfl, ?_⟩) (by assumption) ?_
                  rotate_left
                  · (intro wx hSw; have k0 : wx.cell? ⟨G, 2, none⟩ = some (.int .u64 fc) := by rw [hSw.out]; exact HW.out.2.1.drew'.cell 2
                     have k1 : wx.cell? ⟨G + 1, 2, none⟩ = some (.int .u64 z) := by rw [hSw.out]; exact HW.out.2.2.1.drew'.cell 2
                     go_simp; (try with_reducible rfl))
                  (try simp only [Act.put, List.getElem_toArray, List.getElem_cons_zero, List.getElem_cons_succ, List.setIfInBounds_toArray, List.set_cons_zero, List.set_cons_succ])
                  refine wpAnyH_take (i := 13) (v := ?_) rfl (by kernel_rfl) (by kernel_rfl) (by kernel_rfl) (fun _ _ _ h => h) (Or.inl ⟨by rfl, ?_⟩) (by assumption) ?_
                  rotate_left
                  · (intro wx hSw; have k0 : wx.cell? ⟨G, 2, none⟩ = some (.int .u64 fc) := by rw [hSw.out]; exact HW.out.2.1.drew'.cell 2
                     have k1 : wx.cell? ⟨G + 1, 2, none⟩ = some (.int .u64 z) := by rw [hSw.out]; exact HW.out.2.2.1.drew'.cell 2
                     go_simp; (try with_reducible rfl))
                  (try simp only [Act.put, List.getElem_toArray, List.getElem_cons_zero, List.getElem_cons_succ, List.setIfInBounds_toArray, List.set_cons_zero, List.set_cons_succ])
                  refine wpAnyH_take (i := 14) (v := ?_) rfl (by kernel_rfl) (by kernel_rfl) (by kernel_rfl) (fun _ _ _ h => h) (Or.inl ⟨by rfl, ?_⟩) (by assumption) ?_
                  rotate_left
                  · (intro wx hSw; have k0 : wx.cell? ⟨G, 2, none⟩ = some (.int .u64 fc) := by rw [hSw.out]; exact HW.out.2.1.drew'.cell 2
                     have k1 : wx.cell? ⟨G + 1, 2, none⟩ = some (.int .u64 z) := by rw [hSw.out]; exact HW.out.2.2.1.drew'.cell 2
                     go_simp; (try with_reducible rfl))
                  (try simp only [Act.put, List.getElem_toArray, List.getElem_cons_zero, List.getElem_cons_succ, List.setIfInBounds_toArray, List.set_cons_zero, List.set_cons_succ])
                  refine wpAnyH_take (i := 15) (v := ?_) rfl (by kernel_rfl) (by kernel_rfl) (by kernel_rfl) (fun _ _ _ h => h) (Or.inl ⟨by rfl, ?_⟩) (by assumption) ?_
                  rotate_left
                  · (intro wx hSw; have k0 : wx.cell? ⟨G, 2, none⟩ = some (.int .u64 fc) := by rw [hSw.out]; exact HW.out.2.1.drew'.cell 2
                     have k1 : wx.cell? ⟨G + 1, 2, none⟩ = some (.int .u64 z) := by rw [hSw.out]; exact HW.out.2.2.1.drew'.cell 2
                     go_simp; (try with_reducible rfl))
                  (try simp only [Act.put, List.getElem_toArray, List.getElem_cons_zero, List.getElem_cons_succ, List.setIfInBounds_toArray, List.set_cons_zero, List.set_cons_succ])
                  refine wpAnyH_take (i := 16) (v := ?_) rfl (by kernel_rfl) (by kernel_rfl) (by kernel_rfl) (fun _ _ _ h => h) (Or.inl ⟨by rfl, ?_⟩) (by assumption) ?_
                  rotate_left
                  · (intro wx hSw; have k0 : wx.cell? ⟨G, 2, none⟩ = some (.int .u64 fc) := by rw [hSw.out]; exact HW.out.2.1.drew'.cell 2
                     have k1 : wx.cell? ⟨G + 1, 2, none⟩ = some (.int .u64 z) := by rw [hSw.out]; exact HW.out.2.2.1.drew'.cell 2
                     go_simp; (try with_reducible rfl))
                  (try simp only [Act.put, List.getElem_toArray, List.getElem_cons_zero, List.getElem_cons_succ, List.setIfInBounds_toArray, List.set_cons_zero, List.set_cons_succ])
                  refine wpAnyH_done (by kernel_rfl) ?_ _
                  have HV := Lib.hid (HW.out.below (W' := wr.drew) (Below.refl _ _).drew)
                  have k0 : wr.cell? ⟨G, 2, none⟩ = some (.int .u64 fc) := HW.out.2.1.cell 2
                  obtain ⟨M, hM⟩ : ∃ M : Nat, Hid ((M : Int) = z - fc) := ⟨(z - fc).toNat, by show _ = _; omega⟩
                  have hM32 : M ≤ 32 := by have := hM.out; omega
                  go_wp2_with fail
                  clear k0
                  obtain ⟨wo, rfl⟩ : ∃ wo : World, wo = wr := ⟨_, rfl⟩
                  go_loopw [5, 9] (fun sv2 nv wr => ∃ m : Nat, m ≤ M ∧ nv = .int .u64 (fc + m) ∧ Hid (RW w a b c x y z G wr (sv2) (S ++ List.replicate m 0) fa fb fc)) (fun _ nv _ => M - (intOf nv - fc).toNat)
                  case atStart => exact ⟨0, Nat.zero_le _, by go_num, by show RW _ _ _ _ _ _ _ _ _ _ _ _ _ _; simpa using HV.out⟩
                  case round =>
                    obtain ⟨m, hm, rfl, HQ⟩ := hrel
                    have k1 : wr.cell? ⟨G + 1, 2, none⟩ = some (.int .u64 z) := HQ.out.2.2.1.cell 2
                    by_cases hmM : m < M
                    · have hlt3 : (fc + (m : Int) < z) = True := eq_true (by have := hM.out; omega)
                      have hle3 : fc + (m : Int) + 1 < 18446744073709551616 := by have := hM.out; have := D0.out; omega
                      have hge3 : 0 ≤ fc := D0.out.1.1
                      go_wp2_with (at_builtin; refine stop_here ?_)
                      unfold Stop
                      have bA := (Below.refl wr.heap.size wr).alloc (Nat.le_refl _) (.cells #[.int .u8 0] 5)
                      have hlen : (S ++ List.replicate m (0 : Int)).length = S.length + m := by simp
                      obtain ⟨cs, hcl, hcz, hown2, hR⟩ := HQ.out.1.below RU8.mono bA
                      rw [hlen] at hown2 hcl
                      refine wpList_append_own _ rfl _ _ 28 rfl _ 5 i0 (.int .u8 0) 1 1 Tryd.underlying28 hi hz0 hz1 hz2 rfl (by decide) _ _ _ rfl hown2 ⟨wr.heap.size, 0, none⟩ 1 1 [.int .u8 0] rfl rfl (cells_new wr #[.int .u8 0] _) ?_ ?_ ?_ ?_ ?_
                      · intro y hy; simp at hy; rcases hy with rfl; rfl
                      · unfold maxLen; omega
                      · omega
                      · have h1 := HQ.out.2.2.1.lt; exact Nat.le_trans h1 bA.size
                      intro v' w2 hown3 hgrow _
                      have HN : Hid (RW w a b c x y z G w2 (v') (S ++ List.replicate (m + 1) 0) fa fb fc) := by
                        show RW _ _ _ _ _ _ _ _ _ _ _ _ _ _
                        rw [List.replicate_succ', ← List.append_assoc]
                        exact HQ.out.push _ _ hlen hcl hcz hown2 hR hgrow hown3 hG1
                      clear hgrow hown3 hown2 hR hcz hcl bA HQ k1 hlen
                      go_wp2_with fail
                      go_roundw
                      case rel => exact ⟨m + 1, by omega, by go_num, HN⟩
                      case measure => simp [intOf]; omega
                    · obtain rfl : m = M := by omega
                      have hlt3 : (fc + (m : Int) < z) = False := eq_false (by have := hM.out; omega)
                      go_wp2_with fail
                      have hM2 := Lib.hid (show (m : Int) = z - fc from hM.out)
                      clear k1 HW HV
                      refine wp_loop_rounds 1 ?_
                      rw [rounds_succ]
                      go_wp2_with fail
                      have HWs := Lib.hid HQ.out
                      have HJ := Lib.hid (HI.out.go2 hu.out (by show fc < z; omega) m hM2.out)
                      clear HQ HI hM hM2 
                      obtain ⟨ws, rfl⟩ : ∃ ws : World, ws = wr := ⟨_, rfl⟩
                      refine wp_region_held_drew (S := fun w' => Hid (w' = ws.drew)) (by kernel_rfl) (show Hid _ from Lib.hid rfl) (fun hHeld => ?_)
                      (try simp only [Act.put, List.getElem_toArray, List.getElem_cons_zero, List.getElem_cons_succ, List.setIfInBounds_toArray, List.set_cons_zero, List.set_cons_succ])
                      refine wpAnyH_take (i := 0) (v := ?_) rfl (by kernel_rfl) (by kernel_rfl) (by kernel_rfl) (fun _ _ _ h => h) (Or.inl ⟨by rfl, ?_⟩) (by assumption) ?_
                      rotate_left
                      · (intro wx hSw; have k0 : wx.cell? ⟨G, 2, none⟩ = some (.int .u64 fc) := by rw [hSw.out]; exact HWs.out.2.1.drew'.cell 2
                         have k1 : wx.cell? ⟨G + 1, 2, none⟩ = some (.int .u64 z) := by rw [hSw.out]; exact HWs.out.2.2.1.drew'.cell 2
                         go_simp; (try with_reducible rfl))
                      (try simp only [Act.put, List.getElem_toArray, List.getElem_cons_zero, List.getElem_cons_succ, List.setIfInBounds_toArray, List.set_cons_zero, List.set_cons_succ])
                      refine wpAnyH_take (i := 1) (v := ?_) rfl (by kernel_rfl) (by kernel_rfl) (by kernel_rfl) (fun _ _ _ h => h) (Or.inl ⟨by rfl, ?_⟩) (by assumption) ?_
                      rotate_left
                      · (intro wx hSw; have k0 : wx.cell? ⟨G, 2, none⟩ = some (.int .u64 fc) := by rw [hSw.out]; exact HWs.out.2.1.drew'.cell 2
                         have k1 : wx.cell? ⟨G + 1, 2, none⟩ = some (.int .u64 z) := by rw [hSw.out]; exact HWs.out.2.2.1.drew'.cell 2
                         go_simp; (try with_reducible rfl))
                      (try simp only [Act.put, List.getElem_toArray, List.getElem_cons_zero, List.getElem_cons_succ, List.setIfInBounds_toArray, List.set_cons_zero, List.set_cons_succ])
                      refine wpAnyH_take (i := 2) (v := ?_) rfl (by kernel_rfl) (by kernel_rfl) (by kernel_rfl) (fun _ _ _ h => h) (Or.inl ⟨by rfl, ?_⟩) (by assumption) ?_
                      rotate_left
                      · (intro wx hSw; have k0 : wx.cell? ⟨G, 2, none⟩ = some (.int .u64 fc) := by rw [hSw.out]; exact HWs.out.2.1.drew'.cell 2
                         have k1 : wx.cell? ⟨G + 1, 2, none⟩ = some (.int .u64 z) := by rw [hSw.out]; exact HWs.out.2.2.1.drew'.cell 2
                         go_simp; (try with_reducible rfl))
                      (try simp only [Act.put, List.getElem_toArray, List.getElem_cons_zero, List.getElem_cons_succ, List.setIfInBounds_toArray, List.set_cons_zero, List.set_cons_succ])
                      refine wpAnyH_take (i := 3) (v := ?_) rfl (by kernel_rfl) (by kernel_rfl) (by kernel_rfl) (fun _ _ _ h => h) (Or.inl ⟨by rfl, ?_⟩) (by assumption) ?_
                      rotate_left
                      · (intro wx hSw; have k0 : wx.cell? ⟨G, 2, none⟩ = some (.int .u64 fc) := by rw [hSw.out]; exact HWs.out.2.1.drew'.cell 2
                         have k1 : wx.cell? ⟨G + 1, 2, none⟩ = some (.int .u64 z) := by rw [hSw.out]; exact HWs.out.2.2.1.drew'.cell 2
                         go_simp; (try with_reducible rfl))
                      (try simp only [Act.put, List.getElem_toArray, List.getElem_cons_zero, List.getElem_cons_succ, List.setIfInBounds_toArray, List.set_cons_zero, List.set_cons_succ])
                      refine wpAnyH_take (i := 4) (v := ?_) rfl (by kernel_rfl) (by kernel_rfl) (by kernel_rfl) (fun _ _ _ h => h) (Or.inl ⟨by rfl, ?_⟩) (by assumption) ?_
                      rotate_left
                      · (intro wx hSw; have k0 : wx.cell? ⟨G, 2, none⟩ = some (.int .u64 fc) := by rw [hSw.out]; exact HWs.out.2.1.drew'.cell 2
                         have k1 : wx.cell? ⟨G + 1, 2, none⟩ = some (.int .u64 z) := by rw [hSw.out]; exact HWs.out.2.2.1.drew'.cell 2
                         go_simp; (try with_reducible rfl))
                      (try simp only [Act.put, List.getElem_toArray, List.getElem_cons_zero, List.getElem_cons_succ, List.setIfInBounds_toArray, List.set_cons_zero, List.set_cons_succ])
                      refine wpAnyH_take (i := 5) (v := ?_) rfl (by kernel_rfl) (by kernel_rfl) (by kernel_rfl) (fun _ _ _ h => h) (Or.inl ⟨by rfl, ?_⟩) (by assumption) ?_
                      rotate_left
                      · (intro wx hSw; have k0 : wx.cell? ⟨G, 2, none⟩ = some (.int .u64 fc) := by rw [hSw.out]; exact HWs.out.2.1.drew'.cell 2
                         have k1 : wx.cell? ⟨G + 1, 2, none⟩ = some (.int .u64 z) := by rw [hSw.out]; exact HWs.out.2.2.1.drew'.cell 2
                         go_simp; (try with_reducible rfl))
                      (try simp only [Act.put, List.getElem_toArray, List.getElem_cons_zero, List.getElem_cons_succ, List.setIfInBounds_toArray, List.set_cons_zero, List.set_cons_succ])
                      refine wpAnyH_take (i := 6) (v := ?_) rfl (by kernel_rfl) (by kernel_rfl) (by kernel_rfl) (fun _ _ _ h => h) (Or.inl ⟨by rfl, ?_⟩) (by assumption) ?_
                      rotate_left
                      · (intro wx hSw; have k0 : wx.cell? ⟨G, 2, none⟩ = some (.int .u64 fc) := by rw [hSw.out]; exact HWs.out.2.1.drew'.cell 2
                         have k1 : wx.cell? ⟨G + 1, 2, none⟩ = some (.int .u64 z) := by rw [hSw.out]; exact HWs.out.2.2.1.drew'.cell 2
                         go_simp; (try with_reducible rfl))
                      (try simp only [Act.put, List.getElem_toArray, List.getElem_cons_zero, List.getElem_cons_succ, List.setIfInBounds_toArray, List.set_cons_zero, List.set_cons_succ])
                      refine wpAnyH_take (i := 7) (v := ?_) rfl (by kernel_rfl) (by kernel_rfl) (by kernel_rfl) (fun _ _ _ h => h) (Or.inl ⟨by rfl, ?_⟩) (by assumption) ?_
                      rotate_left
                      · (intro wx hSw; have k0 : wx.cell? ⟨G, 2, none⟩ = some (.int .u64 fc) := by rw [hSw.out]; exact HWs.out.2.1.drew'.cell 2
                         have k1 : wx.cell? ⟨G + 1, 2, none⟩ = some (.int .u64 z) := by rw [hSw.out]; exact HWs.out.2.2.1.drew'.cell 2
                         go_simp; (try with_reducible rfl))
                      (try simp only [Act.put, List.getElem_toArray, List.getElem_cons_zero, List.getElem_cons_succ, List.setIfInBounds_toArray, List.set_cons_zero, List.set_cons_succ])
                      refine wpAnyH_take (i := 8) (v := ?_) rfl (by kernel_rfl) (by kernel_rfl) (by kernel_rfl) (fun _ _ _ h => h) (Or.inl ⟨by rfl, ?_⟩) (by assumption) ?_
                      rotate_left
                      · (intro wx hSw; have k0 : wx.cell? ⟨G, 2, none⟩ = some (.int .u64 fc) := by rw [hSw.out]; exact HWs.out.2.1.drew'.cell 2
                         have k1 : wx.cell? ⟨G + 1, 2, none⟩ = some (.int .u64 z) := by rw [hSw.out]; exact HWs.out.2.2.1.drew'.cell 2
                         go_simp; (try with_reducible rfl))
                      (try simp only [Act.put, List.getElem_toArray, List.getElem_cons_zero, List.getElem_cons_succ, List.setIfInBounds_toArray, List.set_cons_zero, List.set_cons_succ])
                      refine wpAnyH_take (i := 9) (v := ?_) rfl (by kernel_rfl) (by kernel_rfl) (by kernel_rfl) (fun _ _ _ h => h) (Or.inl ⟨by rfl, ?_⟩) (by assumption) ?_
                      rotate_left
                      · (intro wx hSw; have k0 : wx.cell? ⟨G, 2, none⟩ = some (.int .u64 fc) := by rw [hSw.out]; exact HWs.out.2.1.drew'.cell 2
                         have k1 : wx.cell? ⟨G + 1, 2, none⟩ = some (.int .u64 z) := by rw [hSw.out]; exact HWs.out.2.2.1.drew'.cell 2
                         go_simp; (try with_reducible rfl))
                      (try simp only [Act.put, List.getElem_toArray, List.getElem_cons_zero, List.getElem_cons_succ, List.setIfInBounds_toArray, List.set_cons_zero, List.set_cons_succ])
                      refine wpAnyH_take (i := 10) (v := ?_) rfl (by kernel_rfl) (by kernel_rfl) (by kernel_rfl) (fun _ _ _ h => h) (Or.inl ⟨by rfl, ?_⟩) (by assumption) ?_
                      rotate_left
                      · (intro wx hSw; have k0 : wx.cell? ⟨G, 2, none⟩ = some (.int .u64 fc) := by rw [hSw.out]; exact HWs.out.2.1.drew'.cell 2
                         have k1 : wx.cell? ⟨G + 1, 2, none⟩ = some (.int .u64 z) := by rw [hSw.out]; exact HWs.out.2.2.1.drew'.cell 2
                         go_simp; (try with_reducible rfl))
                      (try simp only [Act.put, List.getElem_toArray, List.getElem_cons_zero, List.getElem_cons_succ, List.setIfInBounds_toArray, List.set_cons_zero, List.set_cons_succ])
                      refine wpAnyH_take (i := 11) (v := ?_) rfl (by kernel_rfl) (by kernel_rfl) (by kernel_rfl) (fun _ _ _ h => h) (Or.inl ⟨by rfl, ?_⟩) (by assumption) ?_
                      rotate_left
                      · (intro wx hSw; have k0 : wx.cell? ⟨G, 2, none⟩ = some (.int .u64 fc) := by rw [hSw.out]; exact HWs.out.2.1.drew'.cell 2
                         have k1 : wx.cell? ⟨G + 1, 2, none⟩ = some (.int .u64 z) := by rw [hSw.out]; exact HWs.out.2.2.1.drew'.cell 2
                         go_simp; (try with_reducible rfl))
                      (try simp only [Act.put, List.getElem_toArray, List.getElem_cons_zero, List.getElem_cons_succ, List.setIfInBounds_toArray, List.set_cons_zero, List.set_cons_succ])
                      refine wpAnyH_take (i := 12) (v := ?_) rfl (by kernel_rfl) (by kernel_rfl) (by kernel_rfl) (fun _ _ _ h => h) (Or.inl ⟨by rfl, ?_⟩) (by assumption) ?_
                      rotate_left
                      · (intro wx hSw; have k0 : wx.cell? ⟨G, 2, none⟩ = some (.int .u64 fc) := by rw [hSw.out]; exact HWs.out.2.1.drew'.cell 2
                         have k1 : wx.cell? ⟨G + 1, 2, none⟩ = some (.int .u64 z) := by rw [hSw.out]; exact HWs.out.2.2.1.drew'.cell 2
                         go_simp; (try with_reducible rfl))
                      (try simp only [Act.put, List.getElem_toArray, List.getElem_cons_zero, List.getElem_cons_succ, List.setIfInBounds_toArray, List.set_cons_zero, List.set_cons_succ])
                      refine wpAnyH_take (i := 13) (v := ?_) rfl (by kernel_rfl) (by kernel_rfl) (by kernel_rfl) (fun _ _ _ h => h) (Or.inl ⟨by rfl, ?_⟩) (by assumption) ?_
                      rotate_left
                      · (intro wx hSw; have k0 : wx.cell? ⟨G, 2, none⟩ = some (.int .u64 fc) := by rw [hSw.out]; exact HWs.out.2.1.drew'.cell 2
                         have k1 : wx.cell? ⟨G + 1, 2, none⟩ = some (.int .u64 z) := by rw [hSw.out]; exact HWs.out.2.2.1.drew'.cell 2
                         go_simp; (try with_reducible rfl))
                      (try simp only [Act.put, List.getElem_toArray, List.getElem_cons_zero, List.getElem_cons_succ, List.setIfInBounds_toArray, List.set_cons_zero, List.set_cons_succ])
                      refine wpAnyH_take (i := 14) (v := ?_) rfl (by kernel_rfl) (by kernel_rfl) (by kernel_rfl) (fun _ _ _ h => h) (Or.inl ⟨by rfl, ?_⟩) (by assumption) ?_
                      rotate_left
                      · (intro wx hSw; have k0 : wx.cell? ⟨G, 2, none⟩ = some (.int .u64 fc) := by rw [hSw.out]; exact HWs.out.2.1.drew'.cell 2
                         have k1 : wx.cell? ⟨G + 1, 2, none⟩ = some (.int .u64 z) := by rw [hSw.out]; exact HWs.out.2.2.1.drew'.cell 2
                         go_simp; (try with_reducible rfl))
                      (try simp only [Act.put, List.getElem_toArray, List.getElem_cons_zero, List.getElem_cons_succ, List.setIfInBounds_toArray, List.set_cons_zero, List.set_cons_succ])
                      refine wpAnyH_take (i := 15) (v := ?_) rfl (by kernel_rfl) (by kernel_rfl) (by kernel_rfl) (fun _ _ _ h => h) (Or.inl ⟨by rfl, ?_⟩) (by assumption) ?_
                      rotate_left
                      · (intro wx hSw; have k0 : wx.cell? ⟨G, 2, none⟩ = some (.int .u64 fc) := by rw [hSw.out]; exact HWs.out.2.1.drew'.cell 2
                         have k1 : wx.cell? ⟨G + 1, 2, none⟩ = some (.int .u64 z) := by rw [hSw.out]; exact HWs.out.2.2.1.drew'.cell 2
                         go_simp; (try with_reducible rfl))
                      (try simp only [Act.put, List.getElem_toArray, List.getElem_cons_zero, List.getElem_cons_succ, List.setIfInBounds_toArray, List.set_cons_zero, List.set_cons_succ])
                      refine wpAnyH_take (i := 16) (v := ?_) rfl (by kernel_rfl) (by kernel_rfl) (by kernel_rfl) (fun _ _ _ h => h) (Or.inl ⟨by rfl, ?_⟩) (by assumption) ?_
                      rotate_left
                      · (intro wx hSw; have k0 : wx.cell? ⟨G, 2, none⟩ = some (.int .u64 fc) := by rw [hSw.out]; exact HWs.out.2.1.drew'.cell 2
                         have k1 : wx.cell? ⟨G + 1, 2, none⟩ = some (.int .u64 z) := by rw [hSw.out]; exact HWs.out.2.2.1.drew'.cell 2
                         go_simp; (try with_reducible rfl))
                      (try simp only [Act.put, List.getElem_toArray, List.getElem_cons_zero, List.getElem_cons_succ, List.setIfInBounds_toArray, List.set_cons_zero, List.set_cons_succ])
                      refine wpAnyH_done (by kernel_rfl) ?_ _
                      have HU := Lib.hid (HWs.out.below (W' := ws.drew) (Below.refl _ _).drew)
                      go_wp2_with fail
                      go_roundw
                      case rel => exact ⟨3, S ++ List.replicate m 0, fa, fb, fc, by omega, by go_num, by simp; omega, HJ, HU⟩
                      case measure => simp [intOf]
                · have h32a : (z - fc ≤ 32) = False := eq_false h32
                  have h32b : (32 < z - fc) = True := eq_true (by omega)
                  go_wp2_with fail
                  refine wp_region_held_drew (S := fun w' => Hid (w' = wr.drew)) (by kernel_rfl) (show Hid _ from Lib.hid rfl) (fun hHeld => ?_)
                  (try simp only [Act.put, List.getElem_toArray, List.getElem_cons_zero, List.getElem_cons_succ, List.setIfInBounds_toArray, List.set_cons_zero, List.set_cons_succ])
                  refine wpAnyH_take (i := 0) (v := ?_) rfl (by kernel_rfl) (by kernel_rfl) (by kernel_rfl) (fun _ _ _ h => h) (Or.inl ⟨by rfl, ?_⟩) (by assumption) ?_
                  rotate_left
                  · (intro wx hSw; have k0 : wx.cell? ⟨G, 2, none⟩ = some (.int .u64 fc) := by rw [hSw.out]; exact HW.out.2.1.drew'.cell 2
                     have k1 : wx.cell? ⟨G + 1, 2, none⟩ = some (.int .u64 z) := by rw [hSw.out]; exact HW.out.2.2.1.drew'.cell 2
                     go_simp; (try with_reducible rfl))
                  (try simp only [Act.put, List.getElem_toArray, List.getElem_cons_zero, List.getElem_cons_succ, List.setIfInBounds_toArray, List.set_cons_zero, List.set_cons_succ])
                  refine wpAnyH_take (i := 1) (v := ?_) rfl (by kernel_rfl) (by kernel_rfl) (by kernel_rfl) (fun _ _ _ h => h) (Or.inl ⟨by rfl, ?_⟩) (by assumption) ?_
                  rotate_left
                  · (intro wx hSw; have k0 : wx.cell? ⟨G, 2, none⟩ = some (.int .u64 fc) := by rw [hSw.out]; exact HW.out.2.1.drew'.cell 2
                     have k1 : wx.cell? ⟨G + 1, 2, none⟩ = some (.int .u64 z) := by rw [hSw.out]; exact HW.out.2.2.1.drew'.cell 2
                     go_simp; (try with_reducible rfl))
                  (try simp only [Act.put, List.getElem_toArray, List.getElem_cons_zero, List.getElem_cons_succ, List.setIfInBounds_toArray, List.set_cons_zero, List.set_cons_succ])
                  refine wpAnyH_take (i := 2) (v := ?_) rfl (by kernel_rfl) (by kernel_rfl) (by kernel_rfl) (fun _ _ _ h => h) (Or.inl ⟨by rfl, ?_⟩) (by assumption) ?_
                  rotate_left
                  · (intro wx hSw; have k0 : wx.cell? ⟨G, 2, none⟩ = some (.int .u64 fc) := by rw [hSw.out]; exact HW.out.2.1.drew'.cell 2
                     have k1 : wx.cell? ⟨G + 1, 2, none⟩ = some (.int .u64 z) := by rw [hSw.out]; exact HW.out.2.2.1.drew'.cell 2
                     go_simp; (try with_reducible rfl))
                  (try simp only [Act.put, List.getElem_toArray, List.getElem_cons_zero, List.getElem_cons_succ, List.setIfInBounds_toArray, List.set_cons_zero, List.set_cons_succ])
                  refine wpAnyH_take (i := 3) (v := ?_) rfl (by kernel_rfl) (by kernel_rfl) (by kernel_rfl) (fun _ _ _ h => h) (Or.inl ⟨by rfl, ?_⟩) (by assumption) ?_
                  rotate_left
                  · (intro wx hSw; have k0 : wx.cell? ⟨G, 2, none⟩ = some (.int .u64 fc) := by rw [hSw.out]; exact HW.out.2.1.drew'.cell 2
                     have k1 : wx.cell? ⟨G + 1, 2, none⟩ = some (.int .u64 z) := by rw [hSw.out]; exact HW.out.2.2.1.drew'.cell 2
                     go_simp; (try with_reducible rfl))
                  (try simp only [Act.put, List.getElem_toArray, List.getElem_cons_zero, List.getElem_cons_succ, List.setIfInBounds_toArray, List.set_cons_zero, List.set_cons_succ])
                  refine wpAnyH_take (i := 4) (v := ?_) rfl (by kernel_rfl) (by kernel_rfl) (by kernel_rfl) (fun _ _ _ h => h) (Or.inl ⟨by rfl, ?_⟩) (by assumption) ?_
                  rotate_left
                  · (intro wx hSw; have k0 : wx.cell? ⟨G, 2, none⟩ = some (.int .u64 fc) := by rw [hSw.out]; exact HW.out.2.1.drew'.cell 2
                     have k1 : wx.cell? ⟨G + 1, 2, none⟩ = some (.int .u64 z) := by rw [hSw.out]; exact HW.out.2.2.1.drew'.cell 2
                     go_simp; (try with_reducible rfl))
                  (try simp only [Act.put, List.getElem_toArray, List.getElem_cons_zero, List.getElem_cons_succ, List.setIfInBounds_toArray, List.set_cons_zero, List.set_cons_succ])
                  refine wpAnyH_take (i := 5) (v := ?_) rfl (by kernel_rfl) (by kernel_rfl) (by kernel_rfl) (fun _ _ _ h => h) (Or.inl ⟨by rfl, ?_⟩) (by assumption) ?_
                  rotate_left
                  · (intro wx hSw; have k0 : wx.cell? ⟨G, 2, none⟩ = some (.int .u64 fc) := by rw [hSw.out]; exact HW.out.2.1.drew'.cell 2
                     have k1 : wx.cell? ⟨G + 1, 2, none⟩ = some (.int .u64 z) := by rw [hSw.out]; exact HW.out.2.2.1.drew'.cell 2
                     go_simp; (try with_reducible rfl))
                  (try simp only [Act.put, List.getElem_toArray, List.getElem_cons_zero, List.getElem_cons_succ, List.setIfInBounds_toArray, List.set_cons_zero, List.set_cons_succ])
                  refine wpAnyH_take (i := 6) (v := ?_) rfl (by kernel_rfl) (by kernel_rfl) (by kernel_rfl) (fun _ _ _ h => h) (Or.inl ⟨by rfl, ?_⟩) (by assumption) ?_
                  rotate_left
                  · (intro wx hSw; have k0 : wx.cell? ⟨G, 2, none⟩ = some (.int .u64 fc) := by rw [hSw.out]; exact HW.out.2.1.drew'.cell 2
                     have k1 : wx.cell? ⟨G + 1, 2, none⟩ = some (.int .u64 z) := by rw [hSw.out]; exact HW.out.2.2.1.drew'.cell 2
                     go_simp; (try with_reducible rfl))
                  (try simp only [Act.put, List.getElem_toArray, List.getElem_cons_zero, List.getElem_cons_succ, List.setIfInBounds_toArray, List.set_cons_zero, List.set_cons_succ])
                  refine wpAnyH_take (i := 7) (v := ?_) rfl (by kernel_rfl) (by kernel_rfl) (by kernel_rfl) (fun _ _ _ h => h) (Or.inl ⟨by rfl, ?_⟩) (by assumption) ?_
                  rotate_left
                  · (intro wx hSw; have k0 : wx.cell? ⟨G, 2, none⟩ = some (.int .u64 fc) := by rw [hSw.out]; exact HW.out.2.1.drew'.cell 2
                     have k1 : wx.cell? ⟨G + 1, 2, none⟩ = some (.int .u64 z) := by rw [hSw.out]; exact HW.out.2.2.1.drew'.cell 2
                     go_simp; (try with_reducible rfl))
                  (try simp only [Act.put, List.getElem_toArray, List.getElem_cons_zero, List.getElem_cons_succ, List.setIfInBounds_toArray, List.set_cons_zero, List.set_cons_succ])
                  refine wpAnyH_take (i := 8) (v := ?_) rfl (by kernel_rfl) (by kernel_rfl) (by kernel_rfl) (fun _ _ _ h => h) (Or.inl ⟨by rfl, ?_⟩) (by assumption) ?_
                  rotate_left
                  · (intro wx hSw; have k0 : wx.cell? ⟨G, 2, none⟩ = some (.int .u64 fc) := by rw [hSw.out]; exact HW.out.2.1.drew'.cell 2
                     have k1 : wx.cell? ⟨G + 1, 2, none⟩ = some (.int .u64 z) := by rw [hSw.out]; exact HW.out.2.2.1.drew'.cell 2
                     go_simp; (try with_reducible rfl))
                  (try simp only [Act.put, List.getElem_toArray, List.getElem_cons_zero, List.getElem_cons_succ, List.setIfInBounds_toArray, List.set_cons_zero, List.set_cons_succ])
                  refine wpAnyH_take (i := 9) (v := ?_) rfl (by kernel_rfl) (by kernel_rfl) (by kernel_rfl) (fun _ _ _ h => h) (Or.inl ⟨by rfl, ?_⟩) (by assumption) ?_
                  rotate_left
                  · (intro wx hSw; have k0 : wx.cell? ⟨G, 2, none⟩ = some (.int .u64 fc) := by rw [hSw.out]; exact HW.out.2.1.drew'.cell 2
                     have k1 : wx.cell? ⟨G + 1, 2, none⟩ = some (.int .u64 z) := by rw [hSw.out]; exact HW.out.2.2.1.drew'.cell 2
                     go_simp; (try with_reducible rfl))
                  (try simp only [Act.put, List.getElem_toArray, List.getElem_cons_zero, List.getElem_cons_succ, List.setIfInBounds_toArray, List.set_cons_zero, List.set_cons_succ])
                  refine wpAnyH_take (i := 10) (v := ?_) rfl (by kernel_rfl) (by kernel_rfl) (by kernel_rfl) (fun _ _ _ h => h) (Or.inl ⟨by rfl, ?_⟩) (by assumption) ?_
                  rotate_left
                  · (intro wx hSw; have k0 : wx.cell? ⟨G, 2, none⟩ = some (.int .u64 fc) := by rw [hSw.out]; exact HW.out.2.1.drew'.cell 2
                     have k1 : wx.cell? ⟨G + 1, 2, none⟩ = some (.int .u64 z) := by rw [hSw.out]; exact HW.out.2.2.1.drew'.cell 2
                     go_simp; (try with_reducible rfl))
                  (try simp only [Act.put, List.getElem_toArray, List.getElem_cons_zero, List.getElem_cons_succ, List.setIfInBounds_toArray, List.set_cons_zero, List.set_cons_succ])
                  refine wpAnyH_take (i := 11) (v := ?_) rfl (by kernel_rfl) (by kernel_rfl) (by kernel_rfl) (fun _ _ _ h => h) (Or.inl ⟨by rfl, ?_⟩) (by assumption) ?_
                  rotate_left
                  · (intro wx hSw; have k0 : wx.cell? ⟨G, 2, none⟩ = some (.int .u64 fc) := by rw [hSw.out]; exact HW.out.2.1.drew'.cell 2
                     have k1 : wx.cell? ⟨G + 1, 2, none⟩ = some (.int .u64 z) := by rw [hSw.out]; exact HW.out.2.2.1.drew'.cell 2
                     go_simp; (try with_reducible rfl))
                  (try simp only [Act.put, List.getElem_toArray, List.getElem_cons_zero, List.getElem_cons_succ, List.setIfInBounds_toArray, List.set_cons_zero, List.set_cons_succ])
                  refine wpAnyH_take (i := 12) (v := ?_) rfl (by kernel_rfl) (by kernel_rfl) (by kernel_rfl) (fun _ _ _ h => h) (Or.inl ⟨by rfl, ?_⟩) (by assumption) ?_
                  rotate_left
                  · (intro wx hSw; have k0 : wx.cell? ⟨G, 2, none⟩ = some (.int .u64 fc) := by rw [hSw.out]; exact HW.out.2.1.drew'.cell 2
                     have k1 : wx.cell? ⟨G + 1, 2, none⟩ = some (.int .u64 z) := by rw [hSw.out]; exact HW.out.2.2.1.drew'.cell 2
                     go_simp; (try with_reducible rfl))
                  (try simp only [Act.put, List.getElem_toArray, List.getElem_cons_zero, List.getElem_cons_succ, List.setIfInBounds_toArray, List.set_cons_zero, List.set_cons_succ])
                  refine wpAnyH_take (i := 13) (v := ?_) rfl (by kernel_rfl) (by kernel_rfl) (by kernel_rfl) (fun _ _ _ h => h) (Or.inl ⟨by rfl, ?_⟩) (by assumption) ?_
                  rotate_left
                  · (intro wx hSw; have k0 : wx.cell? ⟨G, 2, none⟩ = some (.int .u64 fc) := by rw [hSw.out]; exact HW.out.2.1.drew'.cell 2
                     have k1 : wx.cell? ⟨G + 1, 2, none⟩ = some (.int .u64 z) := by rw [hSw.out]; exact HW.out.2.2.1.drew'.cell 2
                     go_simp; (try with_reducible rfl))
                  (try simp only [Act.put, List.getElem_toArray, List.getElem_cons_zero, List.getElem_cons_succ, List.setIfInBounds_toArray, List.set_cons_zero, List.set_cons_succ])
                  refine wpAnyH_take (i := 14) (v := ?_) rfl (by kernel_rfl) (by kernel_rfl) (by kernel_rfl) (fun _ _ _ h => h) (Or.inl ⟨by rfl, ?_⟩) (by assumption) ?_
                  rotate_left
                  · (intro wx hSw; have k0 : wx.cell? ⟨G, 2, none⟩ = some (.int .u64 fc) := by rw [hSw.out]; exact HW.out.2.1.drew'.cell 2
                     have k1 : wx.cell? ⟨G + 1, 2, none⟩ = some (.int .u64 z) := by rw [hSw.out]; exact HW.out.2.2.1.drew'.cell 2
                     go_simp; (try with_reducible rfl))
                  (try simp only [Act.put, List.getElem_toArray, List.getElem_cons_zero, List.getElem_cons_succ, List.setIfInBounds_toArray, List.set_cons_zero, List.set_cons_succ])
                  refine wpAnyH_take (i := 15) (v := ?_) rfl (by kernel_rfl) (by kernel_rfl) (by kernel_rfl) (fun _ _ _ h => h) (Or.inl ⟨by rfl, ?_⟩) (by assumption) ?_
                  rotate_left
                  · (intro wx hSw; have k0 : wx.cell? ⟨G, 2, none⟩ = some (.int .u64 fc) := by rw [hSw.out]; exact HW.out.2.1.drew'.cell 2
                     have k1 : wx.cell? ⟨G + 1, 2, none⟩ = some (.int .u64 z) := by rw [hSw.out]; exact HW.out.2.2.1.drew'.cell 2
                     go_simp; (try with_reducible rfl))
                  (try simp only [Act.put, List.getElem_toArray, List.getElem_cons_zero, List.getElem_cons_succ, List.setIfInBounds_toArray, List.set_cons_zero, List.set_cons_succ])
                  refine wpAnyH_take (i := 16) (v := ?_) rfl (by kernel_rfl) (by kernel_rfl) (by kernel_rfl) (fun _ _ _ h => h) (Or.inl ⟨by rfl, ?_⟩) (by assumption) ?_
                  rotate_left
                  · (intro wx hSw; have k0 : wx.cell? ⟨G, 2, none⟩ = some (.int .u64 fc) := by rw [hSw.out]; exact HW.out.2.1.drew'.cell 2
                     have k1 : wx.cell? ⟨G + 1, 2, none⟩ = some (.int .u64 z) := by rw [hSw.out]; exact HW.out.2.2.1.drew'.cell 2
                     go_simp; (try with_reducible rfl))
                  (try simp only [Act.put, List.getElem_toArray, List.getElem_cons_zero, List.getElem_cons_succ, List.setIfInBounds_toArray, List.set_cons_zero, List.set_cons_succ])
                  refine wpAnyH_done (by kernel_rfl) ?_ _
                  have HV := Lib.hid (HW.out.below (W' := wr.drew) (Below.refl _ _).drew)
                  go_wp2_with fail
                  refine wp_region_held_drew (S := fun w' => Hid (w' = wr.drew.drew)) (by kernel_rfl) (show Hid _ from Lib.hid rfl) (fun hHeld => ?_)
                  (try simp only [Act.put, List.getElem_toArray, List.getElem_cons_zero, List.getElem_cons_succ, List.setIfInBounds_toArray, List.set_cons_zero, List.set_cons_succ])
                  refine wpAnyH_take (i := 0) (v := ?_) rfl (by kernel_rfl) (by kernel_rfl) (by kernel_rfl) (fun _ _ _ h => h) (Or.inl ⟨by rfl, ?_⟩) (by assumption) ?_
                  rotate_left
                  · (intro wx hSw; have k0 : wx.cell? ⟨G, 2, none⟩ = some (.int .u64 fc) := by rw [hSw.out]; exact HV.out.2.1.drew'.cell 2
                     have k1 : wx.cell? ⟨G + 1, 2, none⟩ = some (.int .u64 z) := by rw [hSw.out]; exact HV.out.2.2.1.drew'.cell 2
                     go_simp; (try with_reducible rfl))
                  (try simp only [Act.put, List.getElem_toArray, List.getElem_cons_zero, List.getElem_cons_succ, List.setIfInBounds_toArray, List.set_cons_zero, List.set_cons_succ])
                  refine wpAnyH_take (i := 1) (v := ?_) rfl (by kernel_rfl) (by kernel_rfl) (by kernel_rfl) (fun _ _ _ h => h) (Or.inl ⟨by rfl, ?_⟩) (by assumption) ?_
                  rotate_left
                  · (intro wx hSw; have k0 : wx.cell? ⟨G, 2, none⟩ = some (.int .u64 fc) := by rw [hSw.out]; exact HV.out.2.1.drew'.cell 2
                     have k1 : wx.cell? ⟨G + 1, 2, none⟩ = some (.int .u64 z) := by rw [hSw.out]; exact HV.out.2.2.1.drew'.cell 2
                     go_simp; (try with_reducible rfl))
                  (try simp only [Act.put, List.getElem_toArray, List.getElem_cons_zero, List.getElem_cons_succ, List.setIfInBounds_toArray, List.set_cons_zero, List.set_cons_succ])
                  refine wpAnyH_take (i := 2) (v := ?_) rfl (by kernel_rfl) (by kernel_rfl) (by kernel_rfl) (fun _ _ _ h => h) (Or.inl ⟨by rfl, ?_⟩) (by assumption) ?_
                  rotate_left
                  · (intro wx hSw; have k0 : wx.cell? ⟨G, 2, none⟩ = some (.int .u64 fc) := by rw [hSw.out]; exact HV.out.2.1.drew'.cell 2
                     have k1 : wx.cell? ⟨G + 1, 2, none⟩ = some (.int .u64 z) := by rw [hSw.out]; exact HV.out.2.2.1.drew'.cell 2
                     go_simp; (try with_reducible rfl))
                  (try simp only [Act.put, List.getElem_toArray, List.getElem_cons_zero, List.getElem_cons_succ, List.setIfInBounds_toArray, List.set_cons_zero, List.set_cons_succ])
                  refine wpAnyH_take (i := 3) (v := ?_) rfl (by kernel_rfl) (by kernel_rfl) (by kernel_rfl) (fun _ _ _ h => h) (Or.inl ⟨by rfl, ?_⟩) (by assumption) ?_
                  rotate_left
                  · (intro wx hSw; have k0 : wx.cell? ⟨G, 2, none⟩ = some (.int .u64 fc) := by rw [hSw.out]; exact HV.out.2.1.drew'.cell 2
                     have k1 : wx.cell? ⟨G + 1, 2, none⟩ = some (.int .u64 z) := by rw [hSw.out]; exact HV.out.2.2.1.drew'.cell 2
                     go_simp; (try with_reducible rfl))
                  (try simp only [Act.put, List.getElem_toArray, List.getElem_cons_zero, List.getElem_cons_succ, List.setIfInBounds_toArray, List.set_cons_zero, List.set_cons_succ])
                  refine wpAnyH_take (i := 4) (v := ?_) rfl (by kernel_rfl) (by kernel_rfl) (by kernel_rfl) (fun _ _ _ h => h) (Or.inl ⟨by rfl, ?_⟩) (by assumption) ?_
                  rotate_left
                  · (intro wx hSw; have k0 : wx.cell? ⟨G, 2, none⟩ = some (.int .u64 fc) := by rw [hSw.out]; exact HV.out.2.1.drew'.cell 2
                     have k1 : wx.cell? ⟨G + 1, 2, none⟩ = some (.int .u64 z) := by rw [hSw.out]; exact HV.out.2.2.1.drew'.cell 2
                     go_simp; (try with_reducible rfl))
                  (try simp only [Act.put, List.getElem_toArray, List.getElem_cons_zero, List.getElem_cons_succ, List.setIfInBounds_toArray, List.set_cons_zero, List.set_cons_succ])
                  refine wpAnyH_take (i := 5) (v := ?_) rfl (by kernel_rfl) (by kernel_rfl) (by kernel_rfl) (fun _ _ _ h => h) (Or.inl ⟨by rfl, ?_⟩) (by assumption) ?_
                  rotate_left
                  · (intro wx hSw; have k0 : wx.cell? ⟨G, 2, none⟩ = some (.int .u64 fc) := by rw [hSw.out]; exact HV.out.2.1.drew'.cell 2
                     have k1 : wx.cell? ⟨G + 1, 2, none⟩ = some (.int .u64 z) := by rw [hSw.out]; exact HV.out.2.2.1.drew'.cell 2
                     go_simp; (try with_reducible rfl))
                  (try simp only [Act.put, List.getElem_toArray, List.getElem_cons_zero, List.getElem_cons_succ, List.setIfInBounds_toArray, List.set_cons_zero, List.set_cons_succ])
                  refine wpAnyH_take (i := 6) (v := ?_) rfl (by kernel_rfl) (by kernel_rfl) (by kernel_rfl) (fun _ _ _ h => h) (Or.inl ⟨by rfl, ?_⟩) (by assumption) ?_
                  rotate_left
                  · (intro wx hSw; have k0 : wx.cell? ⟨G, 2, none⟩ = some (.int .u64 fc) := by rw [hSw.out]; exact HV.out.2.1.drew'.cell 2
                     have k1 : wx.cell? ⟨G + 1, 2, none⟩ = some (.int .u64 z) := by rw [hSw.out]; exact HV.out.2.2.1.drew'.cell 2
                     go_simp; (try with_reducible rfl))
                  (try simp only [Act.put, List.getElem_toArray, List.getElem_cons_zero, List.getElem_cons_succ, List.setIfInBounds_toArray, List.set_cons_zero, List.set_cons_succ])
                  refine wpAnyH_take (i := 7) (v := ?_) rfl (by kernel_rfl) (by kernel_rfl) (by kernel_rfl) (fun _ _ _ h => h) (Or.inl ⟨by rfl, ?_⟩) (by assumption) ?_
                  rotate_left
                  · (intro wx hSw; have k0 : wx.cell? ⟨G, 2, none⟩ = some (.int .u64 fc) := by rw [hSw.out]; exact HV.out.2.1.drew'.cell 2
                     have k1 : wx.cell? ⟨G + 1, 2, none⟩ = some (.int .u64 z) := by rw [hSw.out]; exact HV.out.2.2.1.drew'.cell 2
                     go_simp; (try with_reducible rfl))
                  (try simp only [Act.put, List.getElem_toArray, List.getElem_cons_zero, List.getElem_cons_succ, List.setIfInBounds_toArray, List.set_cons_zero, List.set_cons_succ])
                  refine wpAnyH_take (i := 8) (v := ?_) rfl (by kernel_rfl) (by kernel_rfl) (by kernel_rfl) (fun _ _ _ h => h) (Or.inl ⟨by rfl, ?_⟩) (by assumption) ?_
                  rotate_left
                  · (intro wx hSw; have k0 : wx.cell? ⟨G, 2, none⟩ = some (.int .u64 fc) := by rw [hSw.out]; exact HV.out.2.1.drew'.cell 2
                     have k1 : wx.cell? ⟨G + 1, 2, none⟩ = some (.int .u64 z) := by rw [hSw.out]; exact HV.out.2.2.1.drew'.cell 2
                     go_simp; (try with_reducible rfl))
                  (try simp only [Act.put, List.getElem_toArray, List.getElem_cons_zero, List.getElem_cons_succ, List.setIfInBounds_toArray, List.set_cons_zero, List.set_cons_succ])
                  refine wpAnyH_take (i := 9) (v := ?_) rfl (by kernel_rfl) (by kernel_rfl) (by kernel_rfl) (fun _ _ _ h => h) (Or.inl ⟨by rfl, ?_⟩) (by assumption) ?_
                  rotate_left
                  · (intro wx hSw; have k0 : wx.cell? ⟨G, 2, none⟩ = some (.int .u64 fc) := by rw [hSw.out]; exact HV.out.2.1.drew'.cell 2
                     have k1 : wx.cell? ⟨G + 1, 2, none⟩ = some (.int .u64 z) := by rw [hSw.out]; exact HV.out.2.2.1.drew'.cell 2
                     go_simp; (try with_reducible rfl))
                  (try simp only [Act.put, List.getElem_toArray, List.getElem_cons_zero, List.getElem_cons_succ, List.setIfInBounds_toArray, List.set_cons_zero, List.set_cons_succ])
                  refine wpAnyH_take (i := 10) (v := ?_) rfl (by kernel_rfl) (by kernel_rfl) (by kernel_rfl) (fun _ _ _ h => h) (Or.inl ⟨by rfl, ?_⟩) (by assumption) ?_
                  rotate_left
                  · (intro wx hSw; have k0 : wx.cell? ⟨G, 2, none⟩ = some (.int .u64 fc) := by rw [hSw.out]; exact HV.out.2.1.drew'.cell 2
                     have k1 : wx.cell? ⟨G + 1, 2, none⟩ = some (.int .u64 z) := by rw [hSw.out]; exact HV.out.2.2.1.drew'.cell 2
                     go_simp; (try with_reducible rfl))
                  (try simp only [Act.put, List.getElem_toArray, List.getElem_cons_zero, List.getElem_cons_succ, List.setIfInBounds_toArray, List.set_cons_zero, List.set_cons_succ])
                  refine wpAnyH_take (i := 11) (v := ?_) rfl (by kernel_rfl) (by kernel_rfl) (by kernel_rfl) (fun _ _ _ h => h) (Or.inl ⟨by rfl, ?_⟩) (by assumption) ?_
                  rotate_left
                  · (intro wx hSw; have k0 : wx.cell? ⟨G, 2, none⟩ = some (.int .u64 fc) := by rw [hSw.out]; exact HV.out.2.1.drew'.cell 2
                     have k1 : wx.cell? ⟨G + 1, 2, none⟩ = some (.int .u64 z) := by rw [hSw.out]; exact HV.out.2.2.1.drew'.cell 2
                     go_simp; (try with_reducible rfl))
                  (try simp only [Act.put, List.getElem_toArray, List.getElem_cons_zero, List.getElem_cons_succ, List.setIfInBounds_toArray, List.set_cons_zero, List.set_cons_succ])
                  refine wpAnyH_take (i := 12) (v := ?_) rfl (by kernel_rfl) (by kernel_rfl) (by kernel_rfl) (fun _ _ _ h => h) (Or.inl ⟨by rfl, ?_⟩) (by assumption) ?_
                  rotate_left
                  · (intro wx hSw; have k0 : wx.cell? ⟨G, 2, none⟩ = some (.int .u64 fc) := by rw [hSw.out]; exact HV.out.2.1.drew'.cell 2
                     have k1 : wx.cell? ⟨G + 1, 2, none⟩ = some (.int .u64 z) := by rw [hSw.out]; exact HV.out.2.2.1.drew'.cell 2
                     go_simp; (try with_reducible rfl))
                  (try simp only [Act.put, List.getElem_toArray, List.getElem_cons_zero, List.getElem_cons_succ, List.setIfInBounds_toArray, List.set_cons_zero, List.set_cons_succ])
                  refine wpAnyH_take (i := 13) (v := ?_) rfl (by kernel_rfl) (by kernel_rfl) (by kernel_rfl) (fun _ _ _ h => h) (Or.inl ⟨by rfl, ?_⟩) (by assumption) ?_
                  rotate_left
                  · (intro wx hSw; have k0 : wx.cell? ⟨G, 2, none⟩ = some (.int .u64 fc) := by rw [hSw.out]; exact HV.out.2.1.drew'.cell 2
                     have k1 : wx.cell? ⟨G + 1, 2, none⟩ = some (.int .u64 z) := by rw [hSw.out]; exact HV.out.2.2.1.drew'.cell 2
                     go_simp; (try with_reducible rfl))
                  (try simp only [Act.put, List.getElem_toArray, List.getElem_cons_zero, List.getElem_cons_succ, List.setIfInBounds_toArray, List.set_cons_zero, List.set_cons_succ])
                  refine wpAnyH_take (i := 14) (v := ?_) rfl (by kernel_rfl) (by kernel_rfl) (by kernel_rfl) (fun _ _ _ h => h) (Or.inl ⟨by rfl, ?_⟩) (by assumption) ?_
                  rotate_left
                  · (intro wx hSw; have k0 : wx.cell? ⟨G, 2, none⟩ = some (.int .u64 fc) := by rw [hSw.out]; exact HV.out.2.1.drew'.cell 2
                     have k1 : wx.cell? ⟨G + 1, 2, none⟩ = some (.int .u64 z) := by rw [hSw.out]; exact HV.out.2.2.1.drew'.cell 2
                     go_simp; (try with_reducible rfl))
                  (try simp only [Act.put, List.getElem_toArray, List.getElem_cons_zero, List.getElem_cons_succ, List.setIfInBounds_toArray, List.set_cons_zero, List.set_cons_succ])
                  refine wpAnyH_take (i := 15) (v := ?_) rfl (by kernel_rfl) (by kernel_rfl) (by kernel_rfl) (fun _ _ _ h => h) (Or.inl ⟨by rfl, ?_⟩) (by assumption) ?_
                  rotate_left
                  · (intro wx hSw; have k0 : wx.cell? ⟨G, 2, none⟩ = some (.int .u64 fc) := by rw [hSw.out]; exact HV.out.2.1.drew'.cell 2
                     have k1 : wx.cell? ⟨G + 1, 2, none⟩ = some (.int .u64 z) := by rw [hSw.out]; exact HV.out.2.2.1.drew'.cell 2
                     go_simp; (try with_reducible rfl))
                  (try simp only [Act.put, List.getElem_toArray, List.getElem_cons_zero, List.getElem_cons_succ, List.setIfInBounds_toArray, List.set_cons_zero, List.set_cons_succ])
                  refine wpAnyH_take (i := 16) (v := ?_) rfl (by kernel_rfl) (by kernel_rfl) (by kernel_rfl) (fun _ _ _ h => h) (Or.inl ⟨by rfl, ?_⟩) (by assumption) ?_
                  rotate_left
                  · (intro wx hSw; have k0 : wx.cell? ⟨G, 2, none⟩ = some (.int .u64 fc) := by rw [hSw.out]; exact HV.out.2.1.drew'.cell 2
                     have k1 : wx.cell? ⟨G + 1, 2, none⟩ = some (.int .u64 z) := by rw [hSw.out]; exact HV.out.2.2.1.drew'.cell 2
                     go_simp; (try with_reducible rfl))
                  (try simp only [Act.put, List.getElem_toArray, List.getElem_cons_zero, List.getElem_cons_succ, List.setIfInBounds_toArray, List.set_cons_zero, List.set_cons_succ])
                  refine wpAnyH_done (by kernel_rfl) ?_ _
                  go_wp2_with fail
                  go_ret
                  exact ⟨rfl, HV.out.2.2.2.2.2.drew⟩
              · have hlt2 : (fc < z) = False := eq_false hlt
                go_wp2_with fail
                refine wp_region_held_drew (S := fun w' => Hid (w' = wr.drew)) (by kernel_rfl) (show Hid _ from Lib.hid rfl) (fun hHeld => ?_)
                (try simp only [Act.put, List.getElem_toArray, List.getElem_cons_zero, List.getElem_cons_succ, List.setIfInBounds_toArray, List.set_cons_zero, List.set_cons_succ])
                refine wpAnyH_take (i := 0) (v := ?_) rfl (by kernel_rfl) (by kernel_rfl) (by kernel_rfl) (fun _ _ _ h => h) (Or.inl ⟨by rfl, ?_⟩) (by assumption) ?_
                rotate_left
                · (intro wx hSw; have k0 : wx.cell? ⟨G, 2, none⟩ = some (.int .u64 fc) := by rw [hSw.out]; exact HW.out.2.1.drew'.cell 2
                   have k1 : wx.cell? ⟨G + 1, 2, none⟩ = some (.int .u64 z) := by rw [hSw.out]; exact HW.out.2.2.1.drew'.cell 2
                   go_simp; (try with_reducible rfl))
                (try simp only [Act.put, List.getElem_toArray, List.getElem_cons_zero, List.getElem_cons_succ, List.setIfInBounds_toArray, List.set_cons_zero, List.set_cons_succ])
                refine wpAnyH_take (i := 1) (v := ?_) rfl (by kernel_rfl) (by kernel_rfl) (by kernel_rfl) (fun _ _ _ h => h) (Or.inl ⟨by rfl, ?_⟩) (by assumption) ?_
                rotate_left
                · (intro wx hSw; have k0 : wx.cell? ⟨G, 2, none⟩ = some (.int .u64 fc) := by rw [hSw.out]; exact HW.out.2.1.drew'.cell 2
                   have k1 : wx.cell? ⟨G + 1, 2, none⟩ = some (.int .u64 z) := by rw [hSw.out]; exact HW.out.2.2.1.drew'.cell 2
                   go_simp; (try with_reducible rfl))
                (try simp only [Act.put, List.getElem_toArray, List.getElem_cons_zero, List.getElem_cons_succ, List.setIfInBounds_toArray, List.set_cons_zero, List.set_cons_succ])
                refine wpAnyH_take (i := 2) (v := ?_) rfl (by kernel_rfl) (by kernel_rfl) (by kernel_rfl) (fun _ _ _ h => h) (Or.inl ⟨by rfl, ?_⟩) (by assumption) ?_
                rotate_left
                · (intro wx hSw; have k0 : wx.cell? ⟨G, 2, none⟩ = some (.int .u64 fc) := by rw [hSw.out]; exact HW.out.2.1.drew'.cell 2
                   have k1 : wx.cell? ⟨G + 1, 2, none⟩ = some (.int .u64 z) := by rw [hSw.out]; exact HW.out.2.2.1.drew'.cell 2
                   go_simp; (try with_reducible rfl))
                (try simp only [Act.put, List.getElem_toArray, List.getElem_cons_zero, List.getElem_cons_succ, List.setIfInBounds_toArray, List.set_cons_zero, List.set_cons_succ])
                refine wpAnyH_take (i := 3) (v := ?_) rfl (by kernel_rfl) (by kernel_rfl) (by kernel_rfl) (fun _ _ _ h => h) (Or.inl ⟨by rfl, ?_⟩) (by assumption) ?_
                rotate_left
                · (intro wx hSw; have k0 : wx.cell? ⟨G, 2, none⟩ = some (.int .u64 fc) := by rw [hSw.out]; exact HW.out.2.1.drew'.cell 2
                   have k1 : wx.cell? ⟨G + 1, 2, none⟩ = some (.int .u64 z) := by rw [hSw.out]; exact HW.out.2.2.1.drew'.cell 2
                   go_simp; (try with_reducible rfl))
                (try simp only [Act.put, List.getElem_toArray, List.getElem_cons_zero, List.getElem_cons_succ, List.setIfInBounds_toArray, List.set_cons_zero, List.set_cons_succ])
                refine wpAnyH_take (i := 4) (v := ?_) rfl (by kernel_rfl) (by kernel_rfl) (by kernel_rfl) (fun _ _ _ h => h) (Or.inl ⟨by rfl, ?_⟩) (by assumption) ?_
                rotate_left
                · (intro wx hSw; have k0 : wx.cell? ⟨G, 2, none⟩ = some (.int .u64 fc) := by rw [hSw.out]; exact HW.out.2.1.drew'.cell 2
                   have k1 : wx.cell? ⟨G + 1, 2, none⟩ = some (.int .u64 z) := by rw [hSw.out]; exact HW.out.2.2.1.drew'.cell 2
                   go_simp; (try with_reducible rfl))
                (try simp only [Act.put, List.getElem_toArray, List.getElem_cons_zero, List.getElem_cons_succ, List.setIfInBounds_toArray, List.set_cons_zero, List.set_cons_succ])
                refine wpAnyH_take (i := 5) (v := ?_) rfl (by kernel_rfl) (by kernel_rfl) (by kernel_rfl) (fun _ _ _ h => h) (Or.inl ⟨by rfl, ?_⟩) (by assumption) ?_
                rotate_left
                · (intro wx hSw; have k0 : wx.cell? ⟨G, 2, none⟩ = some (.int .u64 fc) := by rw [hSw.out]; exact HW.out.2.1.drew'.cell 2
                   have k1 : wx.cell? ⟨G + 1, 2, none⟩ = some (.int .u64 z) := by rw [hSw.out]; exact HW.out.2.2.1.drew'.cell 2
                   go_simp; (try with_reducible rfl))
                (try simp only [Act.put, List.getElem_toArray, List.getElem_cons_zero, List.getElem_cons_succ, List.setIfInBounds_toArray, List.set_cons_zero, List.set_cons_succ])
                refine wpAnyH_take (i := 6) (v := ?_) rfl (by kernel_rfl) (by kernel_rfl) (by kernel_rfl) (fun _ _ _ h => h) (Or.inl ⟨by rfl, ?_⟩) (by assumption) ?_
                rotate_left
                · (intro wx hSw; have k0 : wx.cell? ⟨G, 2, none⟩ = some (.int .u64 fc) := by rw [hSw.out]; exact HW.out.2.1.drew'.cell 2
                   have k1 : wx.cell? ⟨G + 1, 2, none⟩ = some (.int .u64 z) := by rw [hSw.out]; exact HW.out.2.2.1.drew'.cell 2
                   go_simp; (try with_reducible rfl))
                (try simp only [Act.put, List.getElem_toArray, List.getElem_cons_zero, List.getElem_cons_succ, List.setIfInBounds_toArray, List.set_cons_zero, List.set_cons_succ])
                refine wpAnyH_take (i := 7) (v := ?_) rfl (by kernel_rfl) (by kernel_rfl) (by kernel_rfl) (fun _ _ _ h => h) (Or.inl ⟨by rfl, ?_⟩) (by assumption) ?_
                rotate_left
                · (intro wx hSw; have k0 : wx.cell? ⟨G, 2, none⟩ = some (.int .u64 fc) := by rw [hSw.out]; exact HW.out.2.1.drew'.cell 2
                   have k1 : wx.cell? ⟨G + 1, 2, none⟩ = some (.int .u64 z) := by rw [hSw.out]; exact HW.out.2.2.1.drew'.cell 2
                   go_simp; (try with_reducible rfl))
                (try simp only [Act.put, List.getElem_toArray, List.getElem_cons_zero, List.getElem_cons_succ, List.setIfInBounds_toArray, List.set_cons_zero, List.set_cons_succ])
                refine wpAnyH_take (i := 8) (v := undef) rfl (by kernel_rfl) (by kernel_rfl) (by kernel_rfl) (fun _ _ _ h => h) (Or.inr ⟨by rfl, rfl⟩) (by assumption) ?_
                (try simp only [Act.put, List.getElem_toArray, List.getElem_cons_zero, List.getElem_cons_succ, List.setIfInBounds_toArray, List.set_cons_zero, List.set_cons_succ])
                refine wpAnyH_take (i := 9) (v := undef) rfl (by kernel_rfl) (by kernel_rfl) (by kernel_rfl) (fun _ _ _ h => h) (Or.inr ⟨by rfl, rfl⟩) (by assumption) ?_
                (try simp only [Act.put, List.getElem_toArray, List.getElem_cons_zero, List.getElem_cons_succ, List.setIfInBounds_toArray, List.set_cons_zero, List.set_cons_succ])
                refine wpAnyH_take (i := 10) (v := undef) rfl (by kernel_rfl) (by kernel_rfl) (by kernel_rfl) (fun _ _ _ h => h) (Or.inr ⟨by rfl, rfl⟩) (by assumption) ?_
                (try simp only [Act.put, List.getElem_toArray, List.getElem_cons_zero, List.getElem_cons_succ, List.setIfInBounds_toArray, List.set_cons_zero, List.set_cons_succ])
                refine wpAnyH_take (i := 11) (v := undef) rfl (by kernel_rfl) (by kernel_rfl) (by kernel_rfl) (fun _ _ _ h => h) (Or.inr ⟨by rfl, rfl⟩) (by assumption) ?_
                (try simp only [Act.put, List.getElem_toArray, List.getElem_cons_zero, List.getElem_cons_succ, List.setIfInBounds_toArray, List.set_cons_zero, List.set_cons_succ])
                refine wpAnyH_take (i := 12) (v := undef) rfl (by kernel_rfl) (by kernel_rfl) (by kernel_rfl) (fun _ _ _ h => h) (Or.inr ⟨by rfl, rfl⟩) (by assumption) ?_
                (try simp only [Act.put, List.getElem_toArray, List.getElem_cons_zero, List.getElem_cons_succ, List.setIfInBounds_toArray, List.set_cons_zero, List.set_cons_succ])
                refine wpAnyH_take (i := 13) (v := undef) rfl (by kernel_rfl) (by kernel_rfl) (by kernel_rfl) (fun _ _ _ h => h) (Or.inr ⟨by rfl, rfl⟩) (by assumption) ?_
                (try simp only [Act.put, List.getElem_toArray, List.getElem_cons_zero, List.getElem_cons_succ, List.setIfInBounds_toArray, List.set_cons_zero, List.set_cons_succ])
                refine wpAnyH_take (i := 14) (v := undef) rfl (by kernel_rfl) (by kernel_rfl) (by kernel_rfl) (fun _ _ _ h => h) (Or.inr ⟨by rfl, rfl⟩) (by assumption) ?_
                (try simp only [Act.put, List.getElem_toArray, List.getElem_cons_zero, List.getElem_cons_succ, List.setIfInBounds_toArray, List.set_cons_zero, List.set_cons_succ])
                refine wpAnyH_take (i := 15) (v := undef) rfl (by kernel_rfl) (by kernel_rfl) (by kernel_rfl) (fun _ _ _ h => h) (Or.inr ⟨by rfl, rfl⟩) (by assumption) ?_
                (try simp only [Act.put, List.getElem_toArray, List.getElem_cons_zero, List.getElem_cons_succ, List.setIfInBounds_toArray, List.set_cons_zero, List.set_cons_succ])
                refine wpAnyH_take (i := 16) (v := ?_) rfl (by kernel_rfl) (by kernel_rfl) (by kernel_rfl) (fun _ _ _ h => h) (Or.inl ⟨by rfl, ?_⟩) (by assumption) ?_
                rotate_left
                · (intro wx hSw; have k0 : wx.cell? ⟨G, 2, none⟩ = some (.int .u64 fc) := by rw [hSw.out]; exact HW.out.2.1.drew'.cell 2
                   have k1 : wx.cell? ⟨G + 1, 2, none⟩ = some (.int .u64 z) := by rw [hSw.out]; exact HW.out.2.2.1.drew'.cell 2
                   go_simp; (try with_reducible rfl))
                (try simp only [Act.put, List.getElem_toArray, List.getElem_cons_zero, List.getElem_cons_succ, List.setIfInBounds_toArray, List.set_cons_zero, List.set_cons_succ])
                refine wpAnyH_done (by kernel_rfl) ?_ _
                have HV := Lib.hid (HW.out.below (W' := wr.drew) (Below.refl _ _).drew)
                go_wp2_with fail
                refine wp_region_held_drew (S := fun w' => Hid (w' = wr.drew.drew)) (by kernel_rfl) (show Hid _ from Lib.hid rfl) (fun hHeld => ?_)
                (try simp only [Act.put, List.getElem_toArray, List.getElem_cons_zero, List.getElem_cons_succ, List.setIfInBounds_toArray, List.set_cons_zero, List.set_cons_succ])
                refine wpAnyH_take (i := 0) (v := ?_) rfl (by kernel_rfl) (by kernel_rfl) (by kernel_rfl) (fun _ _ _ h => h) (Or.inl ⟨by rfl, ?_⟩) (by assumption) ?_
                rotate_left
                · (intro wx hSw; have k0 : wx.cell? ⟨G, 2, none⟩ = some (.int .u64 fc) := by rw [hSw.out]; exact HV.out.2.1.drew'.cell 2
                   have k1 : wx.cell? ⟨G + 1, 2, none⟩ = some (.int .u64 z) := by rw [hSw.out]; exact HV.out.2.2.1.drew'.cell 2
                   go_simp; (try with_reducible rfl))
                (try simp only [Act.put, List.getElem_toArray, List.getElem_cons_zero, List.getElem_cons_succ, List.setIfInBounds_toArray, List.set_cons_zero, List.set_cons_succ])
                refine wpAnyH_take (i := 1) (v := ?_) rfl (by kernel_rfl) (by kernel_rfl) (by kernel_rfl) (fun _ _ _ h => h) (Or.inl ⟨by rfl, ?_⟩) (by assumption) ?_
                rotate_left
                · (intro wx hSw; have k0 : wx.cell? ⟨G, 2, none⟩ = some (.int .u64 fc) := by rw [hSw.out]; exact HV.out.2.1.drew'.cell 2
                   have k1 : wx.cell? ⟨G + 1, 2, none⟩ = some (.int .u64 z) := by rw [hSw.out]; exact HV.out.2.2.1.drew'.cell 2
                   go_simp; (try with_reducible rfl))
                (try simp only [Act.put, List.getElem_toArray, List.getElem_cons_zero, List.getElem_cons_succ, List.setIfInBounds_toArray, List.set_cons_zero, List.set_cons_succ])
                refine wpAnyH_take (i := 2) (v := ?_) rfl (by kernel_rfl) (by kernel_rfl) (by kernel_rfl) (fun _ _ _ h => h) (Or.inl ⟨by rfl, ?_⟩) (by assumption) ?_
                rotate_left
                · (intro wx hSw; have k0 : wx.cell? ⟨G, 2, none⟩ = some (.int .u64 fc) := by rw [hSw.out]; exact HV.out.2.1.drew'.cell 2
                   have k1 : wx.cell? ⟨G + 1, 2, none⟩ = some (.int .u64 z) := by rw [hSw.out]; exact HV.out.2.2.1.drew'.cell 2
                   go_simp; (try with_reducible rfl))
                (try simp only [Act.put, List.getElem_toArray, List.getElem_cons_zero, List.getElem_cons_succ, List.setIfInBounds_toArray, List.set_cons_zero, List.set_cons_succ])
                refine wpAnyH_take (i := 3) (v := ?_) rfl (by kernel_rfl) (by kernel_rfl) (by kernel_rfl) (fun _ _ _ h => h) (Or.inl ⟨by rfl, ?_⟩) (by assumption) ?_
                rotate_left
                · (intro wx hSw; have k0 : wx.cell? ⟨G, 2, none⟩ = some (.int .u64 fc) := by rw [hSw.out]; exact HV.out.2.1.drew'.cell 2
                   have k1 : wx.cell? ⟨G + 1, 2, none⟩ = some (.int .u64 z) := by rw [hSw.out]; exact HV.out.2.2.1.drew'.cell 2
                   go_simp; (try with_reducible rfl))
                (try simp only [Act.put, List.getElem_toArray, List.getElem_cons_zero, List.getElem_cons_succ, List.setIfInBounds_toArray, List.set_cons_zero, List.set_cons_succ])
                refine wpAnyH_take (i := 4) (v := ?_) rfl (by kernel_rfl) (by kernel_rfl) (by kernel_rfl) (fun _ _ _ h => h) (Or.inl ⟨by rfl, ?_⟩) (by assumption) ?_
                rotate_left
                · (intro wx hSw; have k0 : wx.cell? ⟨G, 2, none⟩ = some (.int .u64 fc) := by rw [hSw.out]; exact HV.out.2.1.drew'.cell 2
                   have k1 : wx.cell? ⟨G + 1, 2, none⟩ = some (.int .u64 z) := by rw [hSw.out]; exact HV.out.2.2.1.drew'.cell 2
                   go_simp; (try with_reducible rfl))
                (try simp only [Act.put, List.getElem_toArray, List.getElem_cons_zero, List.getElem_cons_succ, List.setIfInBounds_toArray, List.set_cons_zero, List.set_cons_succ])
                refine wpAnyH_take (i := 5) (v := ?_) rfl (by kernel_rfl) (by kernel_rfl) (by kernel_rfl) (fun _ _ _ h => h) (Or.inl ⟨by rfl, ?_⟩) (by assumption) ?_
                rotate_left
                · (intro wx hSw; have k0 : wx.cell? ⟨G, 2, none⟩ = some (.int .u64 fc) := by rw [hSw.out]; exact HV.out.2.1.drew'.cell 2
                   have k1 : wx.cell? ⟨G + 1, 2, none⟩ = some (.int .u64 z) := by rw [hSw.out]; exact HV.out.2.2.1.drew'.cell 2
                   go_simp; (try with_reducible rfl))
                (try simp only [Act.put, List.getElem_toArray, List.getElem_cons_zero, List.getElem_cons_succ, List.setIfInBounds_toArray, List.set_cons_zero, List.set_cons_succ])
                refine wpAnyH_take (i := 6) (v := ?_) rfl (by kernel_rfl) (by kernel_rfl) (by kernel_rfl) (fun _ _ _ h => h) (Or.inl ⟨by rfl, ?_⟩) (by assumption) ?_
                rotate_left
                · (intro wx hSw; have k0 : wx.cell? ⟨G, 2, none⟩ = some (.int .u64 fc) := by rw [hSw.out]; exact HV.out.2.1.drew'.cell 2
                   have k1 : wx.cell? ⟨G + 1, 2, none⟩ = some (.int .u64 z) := by rw [hSw.out]; exact HV.out.2.2.1.drew'.cell 2
                   go_simp; (try with_reducible rfl))
                (try simp only [Act.put, List.getElem_toArray, List.getElem_cons_zero, List.getElem_cons_succ, List.setIfInBounds_toArray, List.set_cons_zero, List.set_cons_succ])
                refine wpAnyH_take (i := 7) (v := ?_) rfl (by kernel_rfl) (by kernel_rfl) (by kernel_rfl) (fun _ _ _ h => h) (Or.inl ⟨by rfl, ?_⟩) (by assumption) ?_
                rotate_left
                · (intro wx hSw; have k0 : wx.cell? ⟨G, 2, none⟩ = some (.int .u64 fc) := by rw [hSw.out]; exact HV.out.2.1.drew'.cell 2
                   have k1 : wx.cell? ⟨G + 1, 2, none⟩ = some (.int .u64 z) := by rw [hSw.out]; exact HV.out.2.2.1.drew'.cell 2
                   go_simp; (try with_reducible rfl))
                (try simp only [Act.put, List.getElem_toArray, List.getElem_cons_zero, List.getElem_cons_succ, List.setIfInBounds_toArray, List.set_cons_zero, List.set_cons_succ])
                refine wpAnyH_take (i := 8) (v := undef) rfl (by kernel_rfl) (by kernel_rfl) (by kernel_rfl) (fun _ _ _ h => h) (Or.inr ⟨by rfl, rfl⟩) (by assumption) ?_
                (try simp only [Act.put, List.getElem_toArray, List.getElem_cons_zero, List.getElem_cons_succ, List.setIfInBounds_toArray, List.set_cons_zero, List.set_cons_succ])
                refine wpAnyH_take (i := 9) (v := undef) rfl (by kernel_rfl) (by kernel_rfl) (by kernel_rfl) (fun _ _ _ h => h) (Or.inr ⟨by rfl, rfl⟩) (by assumption) ?_
                (try simp only [Act.put, List.getElem_toArray, List.getElem_cons_zero, List.getElem_cons_succ, List.setIfInBounds_toArray, List.set_cons_zero, List.set_cons_succ])
                refine wpAnyH_take (i := 10) (v := undef) rfl (by kernel_rfl) (by kernel_rfl) (by kernel_rfl) (fun _ _ _ h => h) (Or.inr ⟨by rfl, rfl⟩) (by assumption) ?_
                (try simp only [Act.put, List.getElem_toArray, List.getElem_cons_zero, List.getElem_cons_succ, List.setIfInBounds_toArray, List.set_cons_zero, List.set_cons_succ])
                refine wpAnyH_take (i := 11) (v := undef) rfl (by kernel_rfl) (by kernel_rfl) (by kernel_rfl) (fun _ _ _ h => h) (Or.inr ⟨by rfl, rfl⟩) (by assumption) ?_
                (try simp only [Act.put, List.getElem_toArray, List.getElem_cons_zero, List.getElem_cons_succ, List.setIfInBounds_toArray, List.set_cons_zero, List.set_cons_succ])
                refine wpAnyH_take (i := 12) (v := undef) rfl (by kernel_rfl) (by kernel_rfl) (by kernel_rfl) (fun _ _ _ h => h) (Or.inr ⟨by rfl, rfl⟩) (by assumption) ?_
                (try simp only [Act.put, List.getElem_toArray, List.getElem_cons_zero, List.getElem_cons_succ, List.setIfInBounds_toArray, List.set_cons_zero, List.set_cons_succ])
                refine wpAnyH_take (i := 13) (v := undef) rfl (by kernel_rfl) (by kernel_rfl) (by kernel_rfl) (fun _ _ _ h => h) (Or.inr ⟨by rfl, rfl⟩) (by assumption) ?_
                (try simp only [Act.put, List.getElem_toArray, List.getElem_cons_zero, List.getElem_cons_succ, List.setIfInBounds_toArray, List.set_cons_zero, List.set_cons_succ])
                refine wpAnyH_take (i := 14) (v := undef) rfl (by kernel_rfl) (by kernel_rfl) (by kernel_rfl) (fun _ _ _ h => h) (Or.inr ⟨by rfl, rfl⟩) (by assumption) ?_
                (try simp only [Act.put, List.getElem_toArray, List.getElem_cons_zero, List.getElem_cons_succ, List.setIfInBounds_toArray, List.set_cons_zero, List.set_cons_succ])
                refine wpAnyH_take (i := 15) (v := undef) rfl (by kernel_rfl) (by kernel_rfl) (by kernel_rfl) (fun _ _ _ h => h) (Or.inr ⟨by rfl, rfl⟩) (by assumption) ?_
                (try simp only [Act.put, List.getElem_toArray, List.getElem_cons_zero, List.getElem_cons_succ, List.setIfInBounds_toArray, List.set_cons_zero, List.set_cons_succ])
                refine wpAnyH_take (i := 16) (v := ?_) rfl (by kernel_rfl) (by kernel_rfl) (by kernel_rfl) (fun _ _ _ h => h) (Or.inl ⟨by rfl, ?_⟩) (by assumption) ?_
                rotate_left
                · (intro wx hSw; have k0 : wx.cell? ⟨G, 2, none⟩ = some (.int .u64 fc) := by rw [hSw.out]; exact HV.out.2.1.drew'.cell 2
                   have k1 : wx.cell? ⟨G + 1, 2, none⟩ = some (.int .u64 z) := by rw [hSw.out]; exact HV.out.2.2.1.drew'.cell 2
                   go_simp; (try with_reducible rfl))
                (try simp only [Act.put, List.getElem_toArray, List.getElem_cons_zero, List.getElem_cons_succ, List.setIfInBounds_toArray, List.set_cons_zero, List.set_cons_succ])
                refine wpAnyH_done (by kernel_rfl) ?_ _
                have HU := Lib.hid (HV.out.below (W' := wr.drew.drew) (Below.refl _ _).drew)
                have HJ := Lib.hid (HI.out.stay2 (by show ¬ fc < z; omega))
                go_wp2_with fail
                go_roundw
                case rel => exact ⟨3, S, fa, fb, fc, by omega, by go_num, by omega, HJ, HU⟩
                case measure => simp [intOf]
            · obtain rfl : j = 0 := by omega
              have p0 := HW.out.2.2.2.1.cell 0
              have p1 := HW.out.2.2.2.1.cell 1
              have p2 := HW.out.2.2.2.1.cell 2
              have p3 := HW.out.2.2.2.1.cell 3
              have p4 := HW.out.2.2.2.1.cell 4
              have HE := Lib.hid (HI.out.fin)
              go_wp2_with fail
              refine (svRun_any (a, b, c) S _ _ (Lib.hid HW.out.1.sl) (by omega) hv (Lib.hid HI.out.2.1) (Lib.hid HI.out.1) (tabBelow (Lib.hid he.out.2) HW.out.2.2.2.2.2)).mono ?_
              rintro e w1 ⟨r, L, rfl, hL, hLl, hLn, hb1⟩
              obtain ⟨ao, cap, rfl, hx⟩ := hL.sl
              rw [HE.out] at hLn
              obtain ⟨ab, aoff, us, rfl, hz, hcell, hu2⟩ := hx S.length _ hLn
              unfold RP3 at hu2
              subst hu2
              have B1 := Lib.hid (HW.out.2.2.2.2.2.trans (hb1.mono HW.out.2.2.2.2.2.size))
              have P1 := Lib.hid (HW.out.2.2.2.2.1.below8 hb1)
              have c0 := hcell 0 (.int .u64 x) rfl
              have c1 := hcell 1 (.int .u64 y) rfl
              have c2 := hcell 2 (.int .u64 z) rfl
              have c3 := hcell 3 (.string ⟨#[]⟩) rfl
              have c4 := hcell 4 (.string ⟨#[]⟩) rfl
              rw [hLl]
              simp only [Nat.add_zero] at c0
              clear hcell hz hLn hL hx hb1 HE HI HW p0 p1 p2 p3 p4
              go_wp2_with fail
              clear c0 c1 c2 c3 c4
              refine wp_named ?_
              intro W2 hW2
              obtain ⟨g, hg⟩ : ∃ g, g = w1.heap.size := ⟨_, rfl⟩
              rw [← hg]
              have HS : Hid (PlainAt W2 g (plainC x y z ⟨#[]⟩ ⟨#[]⟩) ∧ PlainAt W2 (w.heap.size + 1) (plainC x y z ⟨#[]⟩ ⟨#[]⟩) ∧ Below w.heap.size w W2) := by
                rw [← hW2]
                exact ⟨plainAt_last _ _ _ hg, P1.out.alloc _, B1.out.alloc B1.out.size _⟩
              clear hW2 hg P1 B1 hLl
              refine wp_region_held_drew (S := fun w' => Hid (PlainAt w' g (plainC x y z ⟨#[]⟩ ⟨#[]⟩) ∧ PlainAt w' (w.heap.size + 1) (plainC x y z ⟨#[]⟩ ⟨#[]⟩) ∧ Below w.heap.size w w')) (by kernel_rfl) (Lib.hid ⟨HS.out.1, HS.out.2.1, HS.out.2.2.drew⟩) (fun hHeld => ?_)
              (try simp only [Act.put, List.getElem_toArray, List.getElem_cons_zero, List.getElem_cons_succ, List.setIfInBounds_toArray, List.set_cons_zero, List.set_cons_succ])
              have HS0 : Hid (PlainAt W2.drew g (plainC x y z ⟨#[]⟩ ⟨#[]⟩) ∧ PlainAt W2.drew (w.heap.size + 1) (plainC x y z ⟨#[]⟩ ⟨#[]⟩) ∧ Below w.heap.size w W2.drew) := Lib.hid ⟨HS.out.1, HS.out.2.1, HS.out.2.2.drew⟩
              clear HS
              refine wpAnyH_take (i := 0) (v := ?_) rfl (by kernel_rfl) (by kernel_rfl) (by kernel_rfl) (fun _ _ _ h => h) (Or.inl ⟨by rfl, ?_⟩) (by assumption) ?_
              rotate_left
              · (intro wx hSw; have k0 := hSw.out.1.cell 0; have k1 := hSw.out.1.cell 1; have k2 := hSw.out.1.cell 2; have k3 := hSw.out.1.cell 3; have k4 := hSw.out.1.cell 4; go_simp; (try with_reducible rfl))
              (try simp only [Act.put, List.getElem_toArray, List.getElem_cons_zero, List.getElem_cons_succ, List.setIfInBounds_toArray, List.set_cons_zero, List.set_cons_succ])
              refine wpAnyH_take (i := 1) (v := ?_) rfl (by kernel_rfl) (by kernel_rfl) (by kernel_rfl) (fun _ _ _ h => h) (Or.inl ⟨by rfl, ?_⟩) (by assumption) ?_
              rotate_left
              · (intro wx hSw; have k0 := hSw.out.2.1.cell 0; have k1 := hSw.out.2.1.cell 1; have k2 := hSw.out.2.1.cell 2; have k3 := hSw.out.2.1.cell 3; have k4 := hSw.out.2.1.cell 4; go_simp; (try with_reducible rfl))
              (try simp only [Act.put, List.getElem_toArray, List.getElem_cons_zero, List.getElem_cons_succ, List.setIfInBounds_toArray, List.set_cons_zero, List.set_cons_succ])
              refine wpAnyH_ready (rs := [2]) (by kernel_rfl) (by simp) ?_
              refine (AllReadyH.cons rfl (fun K hK => ?_) AllReadyH.nil)
              go_simp
              go_at_call 9
              refine (equal_self x y z _ (Lib.hid (he.out.1.below HS0.out.2.2))).mono ?_
              rintro e w3 ⟨rfl, hb1⟩
              have HSw3 : Hid (PlainAt w3 g (plainC x y z ⟨#[]⟩ ⟨#[]⟩) ∧ PlainAt w3 (w.heap.size + 1) (plainC x y z ⟨#[]⟩ ⟨#[]⟩) ∧ Below w.heap.size w w3) := ⟨HS0.out.1.below8 hb1, HS0.out.2.1.below8 hb1, HS0.out.2.2.trans (hb1.mono HS0.out.2.2.size)⟩
              refine hK.out _ _ HSw3 (fun hH2 => ?_)
              clear hK K hHeld hb1 HS0
              have hHeld := hH2
              clear hH2
              (try simp only [Act.put, List.getElem_toArray, List.getElem_cons_zero, List.getElem_cons_succ, List.setIfInBounds_toArray, List.set_cons_zero, List.set_cons_succ])
              refine wpAnyH_take (i := 3) (v := ?_) rfl (by kernel_rfl) (by kernel_rfl) (by kernel_rfl) (fun _ _ _ h => h) (Or.inl ⟨by rfl, ?_⟩) (by assumption) ?_
              rotate_left
              · (intro wx hSw; go_simp; (try with_reducible rfl))
              (try simp only [Act.put, List.getElem_toArray, List.getElem_cons_zero, List.getElem_cons_succ, List.setIfInBounds_toArray, List.set_cons_zero, List.set_cons_succ])
              refine wpAnyH_take (i := 4) (v := ?_) rfl (by kernel_rfl) (by kernel_rfl) (by kernel_rfl) (fun _ _ _ h => h) (Or.inl ⟨by rfl, ?_⟩) (by assumption) ?_
              rotate_left
              · (intro wx hSw; have k0 := hSw.out.1.cell 0; have k1 := hSw.out.1.cell 1; have k2 := hSw.out.1.cell 2; have k3 := hSw.out.1.cell 3; have k4 := hSw.out.1.cell 4; go_simp; (try with_reducible rfl))
              (try simp only [Act.put, List.getElem_toArray, List.getElem_cons_zero, List.getElem_cons_succ, List.setIfInBounds_toArray, List.set_cons_zero, List.set_cons_succ])
              refine wpAnyH_take (i := 6) (v := ?_) rfl (by kernel_rfl) (by kernel_rfl) (by kernel_rfl) (fun _ _ _ h => h) (Or.inl ⟨by rfl, ?_⟩) (by assumption) ?_
              rotate_left
              · (intro wx hSw; have k0 := hSw.out.2.1.cell 0; have k1 := hSw.out.2.1.cell 1; have k2 := hSw.out.2.1.cell 2; have k3 := hSw.out.2.1.cell 3; have k4 := hSw.out.2.1.cell 4; go_simp; (try with_reducible rfl))
              (try simp only [Act.put, List.getElem_toArray, List.getElem_cons_zero, List.getElem_cons_succ, List.setIfInBounds_toArray, List.set_cons_zero, List.set_cons_succ])
              refine wpAnyH_ready (rs := [5]) (by kernel_rfl) (by simp) ?_
              refine (AllReadyH.cons rfl (fun K hK => ?_) AllReadyH.nil)
              go_simp
              go_at_call 10
              refine (verText_any x y z ⟨#[]⟩ ⟨#[]⟩ hu.out.1.1 hu.out.1.2 hu.out.2.1.1 hu.out.2.1.2 hu.out.2.2.1 hu.out.2.2.2 (by decide) (by decide) _ (tabBelow (Lib.hid he.out.2) HSw3.out.2.2)).mono ?_
              rintro e w4 ⟨rfl, hb1⟩
              have HSw4 : Hid (PlainAt w4 g (plainC x y z ⟨#[]⟩ ⟨#[]⟩) ∧ PlainAt w4 (w.heap.size + 1) (plainC x y z ⟨#[]⟩ ⟨#[]⟩) ∧ Below w.heap.size w w4) := ⟨HSw3.out.1.below8 hb1, HSw3.out.2.1.below8 hb1, HSw3.out.2.2.trans (hb1.mono HSw3.out.2.2.size)⟩
              refine hK.out _ _ HSw4 (fun hH2 => ?_)
              clear hK K hHeld hb1 HSw3
              have hHeld := hH2
              clear hH2
              (try simp only [Act.put, List.getElem_toArray, List.getElem_cons_zero, List.getElem_cons_succ, List.setIfInBounds_toArray, List.set_cons_zero, List.set_cons_succ])
              refine wpAnyH_ready (rs := [7]) (by kernel_rfl) (by simp) ?_
              refine (AllReadyH.cons rfl (fun K hK => ?_) AllReadyH.nil)
              go_simp
              go_at_call 11
              refine (spText_any x y z ⟨#[]⟩ ⟨#[]⟩ hu.out.1.1 hu.out.1.2 hu.out.2.1.1 hu.out.2.1.2 hu.out.2.2.1 hu.out.2.2.2 (by decide) (by decide) _).mono ?_
              rintro e w5 ⟨rfl, hb1⟩
              have HSw5 : Hid (PlainAt w5 g (plainC x y z ⟨#[]⟩ ⟨#[]⟩) ∧ PlainAt w5 (w.heap.size + 1) (plainC x y z ⟨#[]⟩ ⟨#[]⟩) ∧ Below w.heap.size w w5) := ⟨HSw4.out.1.below8 hb1, HSw4.out.2.1.below8 hb1, HSw4.out.2.2.trans (hb1.mono HSw4.out.2.2.size)⟩
              refine hK.out _ _ HSw5 (fun hH2 => ?_)
              clear hK K hHeld hb1 HSw4
              have hHeld := hH2
              clear hH2
              (try simp only [Act.put, List.getElem_toArray, List.getElem_cons_zero, List.getElem_cons_succ, List.setIfInBounds_toArray, List.set_cons_zero, List.set_cons_succ])
              refine wpAnyH_take (i := 8) (v := ?_) rfl (by kernel_rfl) (by kernel_rfl) (by kernel_rfl) (fun _ _ _ h => h) (Or.inl ⟨by rfl, ?_⟩) (by assumption) ?_
              rotate_left
              · (intro wx hSw; go_simp; (try with_reducible rfl))
              (try simp only [Act.put, List.getElem_toArray, List.getElem_cons_zero, List.getElem_cons_succ, List.setIfInBounds_toArray, List.set_cons_zero, List.set_cons_succ])
              refine wpAnyH_take (i := 9) (v := ?_) rfl (by kernel_rfl) (by kernel_rfl) (by kernel_rfl) (fun _ _ _ h => h) (Or.inl ⟨by rfl, ?_⟩) (by assumption) ?_
              rotate_left
              · (intro wx hSw; go_simp; (try with_reducible rfl))
              (try simp only [Act.put, List.getElem_toArray, List.getElem_cons_zero, List.getElem_cons_succ, List.setIfInBounds_toArray, List.set_cons_zero, List.set_cons_succ])
              refine wpAnyH_take (i := 10) (v := ?_) rfl (by kernel_rfl) (by kernel_rfl) (by kernel_rfl) (fun _ _ _ h => h) (Or.inl ⟨by rfl, ?_⟩) (by assumption) ?_
              rotate_left
              · (intro wx hSw; go_simp; (try with_reducible rfl))
              (try simp only [Act.put, List.getElem_toArray, List.getElem_cons_zero, List.getElem_cons_succ, List.setIfInBounds_toArray, List.set_cons_zero, List.set_cons_succ])
              refine wpAnyH_done (by kernel_rfl) ?_ _
              go_wp2_with fail
              go_ret
              exact ⟨rfl, HSw5.out.2.2⟩
end Go.Proofs.YtjlbljajgkiniaaDoor
