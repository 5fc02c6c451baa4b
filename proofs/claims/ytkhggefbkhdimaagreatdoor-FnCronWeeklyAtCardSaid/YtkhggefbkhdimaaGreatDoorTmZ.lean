/- pub/gotime in UTC: AddDate, Truncate, IsZero. -/
import Derived.Test.YtkhggefbkhdimaaGreatDoorTmY
import Derived.Deep.RegionHeld3
import Derived.IntWalk
namespace Go.Proofs.YtkhggefbkhdimaaGreatDoor
open Go.RowKit
set_option linter.unusedVariables false
set_option linter.unusedSimpArgs false

theorem year_bd (n : Int) (h0 : -719162 ≤ n) (h1 : n < 6225283) : 1 ≤ yearOf n ∧ yearOf n ≤ 20000 := by
  have h := (isDate_of n).inYear
  unfold ystart at h
  omega
theorem RowAt.set3 {w : World} {g h : Nat} {t : TypeId} {cs : Array Value} (k : RowAt w g t cs) (hne : g ≠ h) (a b c : Value) : RowAt (((w.setCell ⟨h, 0, none⟩ a).setCell ⟨h, 1, none⟩ b).setCell ⟨h, 2, none⟩ c) g t cs := by
  unfold RowAt
  rw [Below.heap_setCell _ _ _ _ hne, Below.heap_setCell _ _ _ _ hne, Below.heap_setCell _ _ _ _ hne]
  exact k
theorem RowAt.own3 {w : World} {h : Nat} {t : TypeId} {x y z : Value} (k : RowAt w h t #[x, y, z]) (a b c : Value) : RowAt (((w.setCell ⟨h, 0, none⟩ a).setCell ⟨h, 1, none⟩ b).setCell ⟨h, 2, none⟩ c) h t #[a, b, c] :=
  heap_setCell_same _ h 2 _ _ _ (heap_setCell_same _ h 1 _ _ _ (heap_setCell_same _ h 0 _ _ _ k))
theorem below_set3 {w0 w : World} {B h : Nat} (k : Below B w0 w) (hB : B ≤ h) (a b c : Value) : Below B w0 (((w.setCell ⟨h, 0, none⟩ a).setCell ⟨h, 1, none⟩ b).setCell ⟨h, 2, none⟩ c) :=
  ((k.setCell (p := ⟨h, 0, none⟩) hB a).setCell (p := ⟨h, 1, none⟩) hB b).setCell (p := ⟨h, 2, none⟩) hB c

set_option maxRecDepth 100000 in
set_option maxHeartbeats 1000000 in
theorem addDate_any (ext mo da Y M : Int) (he : 0 ≤ ext) (he2 : ext < 600000000000) (hmo : mo = 0 ∨ mo = 1) (hda : da = 0 ∨ da = 1) (n : Int) (Hn : Hid (dayN ext = n)) (hYM : Hid ((monthOf n + mo ≤ 12 ∧ Y = yearOf n ∧ M = monthOf n + mo) ∨ (monthOf n + mo = 13 ∧ Y = yearOf n + 1 ∧ M = 1))) (w : World) :
    Calls Tryz.prog 196 #[.agg #[.int .u64 0, .int .i64 ext, .pointer none], .int .i64 0, .int .i64 mo, .int .i64 da] w fun e w' => e = .returned (.agg #[.int .u64 0, .int .i64 (86400 * (dayNo Y M (dayOf n + da) + 719162) + 3600 * (ext % 86400 / 3600) + 60 * (ext % 3600 / 60) + ext % 60), .pointer none]) ∧ Below w.heap.size w w' := by
  obtain ⟨X, HX⟩ : ∃ X, Hid (86400 * (dayNo Y M (dayOf n + da) + 719162) + 3600 * (ext % 86400 / 3600) + 60 * (ext % 3600 / 60) + ext % 60 = X) := ⟨_, rfl⟩
  rw [HX.out]
  have yb := year_bd n (by have := Hn.out; unfold dayN at this; omega) (by have := Hn.out; unfold dayN at this; omega)
  have mb := month_bd n
  have db := day_bd n
  go_enter Tryz.func196, Tryz.ntmps196
  go_wp2_with fail
  refine (tDate_any 0 ext (by decide) he (by omega) _).mono ?_
  rintro e w1 ⟨rfl, hb1⟩
  rw [Hn.out]
  have R1 : RowAt w1 w.heap.size 95 #[.int .u64 0, .int .i64 ext, .pointer none] := RowAt.below ((rowAt_last w _ _ _ rfl).alloc (.cells #[.int .u64 0, .int .i64 0, .pointer none] 95)) hb1
  have Z1 : RowAt w1 (w.heap.size + 1) 95 #[.int .u64 0, .int .i64 0, .pointer none] := RowAt.below (rowAt_last (w.alloc (.cells #[.int .u64 0, .int .i64 ext, .pointer none] 95)) 95 #[.int .u64 0, .int .i64 0, .pointer none] _ (by simp)) hb1
  have b1 : Below w.heap.size w w1 := Below.trans (by repeat (first | (with_reducible assumption) | (with_reducible exact Below.refl _ _) | (with_reducible refine Below.setCell ?_ (by first | omega | (simp <;> omega)) _) | refine below_drewN ?_ _ | refine Below.drew ?_ | refine Below.alloc ?_ (by first | omega | (simp <;> omega)) _)) (hb1.mono (by simp; omega))
  clear hb1
  have k0 : w1.cell? ⟨w.heap.size, 0, none⟩ = some (.int .u64 0) := R1.cell 0
  have k1 : w1.cell? ⟨w.heap.size, 1, none⟩ = some (.int .i64 ext) := R1.cell 1
  have k2 : w1.cell? ⟨w.heap.size, 2, none⟩ = some (.pointer none) := R1.cell 2
  go_wp2_with fail
  refine (tClock_any 0 ext (by decide) he (by omega) _).mono ?_
  rintro e w2 ⟨rfl, hb2⟩
  obtain ⟨g, hg⟩ : ∃ g, g = w.heap.size := ⟨_, rfl⟩
  have HS : Hid (TmAt w2 g 0 ext ∧ RowAt w2 (g + 1) 95 #[.int .u64 0, .int .i64 0, .pointer none] ∧ Below w.heap.size w w2) := by
    rw [hg]; exact ⟨R1.below hb2, Z1.below hb2, b1.trans (hb2.mono b1.size)⟩
  rw [← hg]
  have hgw : w.heap.size ≤ g := by omega
  clear hb2 R1 Z1 b1 k0 k1 k2 hg
  go_wp2_with fail
  have WY : Hid (IntKind.i64.wrap (yearOf n) = yearOf n) := IntWalk.i64_in _ (by omega)
  have WM : Hid (IntKind.i64.wrap (monthOf n + mo) = monthOf n + mo) := IntWalk.i64_in _ (by omega)
  have WD : Hid (IntKind.i64.wrap (dayOf n + da) = dayOf n + da) := IntWalk.i64_in _ (by omega)
  have W0 : Hid (IntKind.i64.wrap 0 = 0) := IntWalk.i64_in _ (by omega)
  refine wp_region_held_drew (S := fun w' => Hid (TmAt w' g 0 ext ∧ Below w.heap.size w w')) (by kernel_rfl) (Lib.hid ⟨HS.out.1, HS.out.2.2.drew⟩) (fun hHeld => ?_)
  (try simp only [Act.put, List.getElem_toArray, List.getElem_cons_zero, List.getElem_cons_succ, List.setIfInBounds_toArray, List.set_cons_zero, List.set_cons_succ])
  have HZ1 : Hid (RowAt w2.drew (g + 1) 95 #[.int .u64 0, .int .i64 0, .pointer none]) := HS.out.2.1
  clear HS
  refine wpAnyH_take (i := 0) (v := ?_) rfl (by kernel_rfl) (by kernel_rfl) (by kernel_rfl) (fun _ _ _ h => h) (Or.inl ⟨by rfl, ?_⟩) (by assumption) ?_
  rotate_left
  · (intro wx hSw; go_simp; (try with_reducible rfl))
  (try simp only [Act.put, List.getElem_toArray, List.getElem_cons_zero, List.getElem_cons_succ, List.setIfInBounds_toArray, List.set_cons_zero, List.set_cons_succ])
  refine wpAnyH_take (i := 1) (v := ?_) rfl (by kernel_rfl) (by kernel_rfl) (by kernel_rfl) (fun _ _ _ h => h) (Or.inl ⟨by rfl, ?_⟩) (by assumption) ?_
  rotate_left
  · (intro wx hSw; go_simp; (try with_reducible rfl))
  (try simp only [Act.put, List.getElem_toArray, List.getElem_cons_zero, List.getElem_cons_succ, List.setIfInBounds_toArray, List.set_cons_zero, List.set_cons_succ])
  refine wpAnyH_take (i := 2) (v := ?_) rfl (by kernel_rfl) (by kernel_rfl) (by kernel_rfl) (fun _ _ _ h => h) (Or.inl ⟨by rfl, ?_⟩) (by assumption) ?_
  rotate_left
  · (intro wx hSw; go_simp; (try with_reducible rfl))
  (try simp only [Act.put, List.getElem_toArray, List.getElem_cons_zero, List.getElem_cons_succ, List.setIfInBounds_toArray, List.set_cons_zero, List.set_cons_succ])
  refine wpAnyH_take (i := 3) (v := ?_) rfl (by kernel_rfl) (by kernel_rfl) (by kernel_rfl) (fun _ _ _ h => h) (Or.inl ⟨by rfl, ?_⟩) (by assumption) ?_
  rotate_left
  · (intro wx hSw; go_simp; (try with_reducible rfl))
  (try simp only [Act.put, List.getElem_toArray, List.getElem_cons_zero, List.getElem_cons_succ, List.setIfInBounds_toArray, List.set_cons_zero, List.set_cons_succ])
  refine wpAnyH_take (i := 4) (v := ?_) rfl (by kernel_rfl) (by kernel_rfl) (by kernel_rfl) (fun _ _ _ h => h) (Or.inl ⟨by rfl, ?_⟩) (by assumption) ?_
  rotate_left
  · (intro wx hSw; go_simp; (try with_reducible rfl))
  (try simp only [Act.put, List.getElem_toArray, List.getElem_cons_zero, List.getElem_cons_succ, List.setIfInBounds_toArray, List.set_cons_zero, List.set_cons_succ])
  refine wpAnyH_take (i := 5) (v := ?_) rfl (by kernel_rfl) (by kernel_rfl) (by kernel_rfl) (fun _ _ _ h => h) (Or.inl ⟨by rfl, ?_⟩) (by assumption) ?_
  rotate_left
  · (intro wx hSw; go_simp; (try with_reducible rfl))
  (try simp only [Act.put, List.getElem_toArray, List.getElem_cons_zero, List.getElem_cons_succ, List.setIfInBounds_toArray, List.set_cons_zero, List.set_cons_succ])
  refine wpAnyH_take (i := 6) (v := ?_) rfl (by kernel_rfl) (by kernel_rfl) (by kernel_rfl) (fun _ _ _ h => h) (Or.inl ⟨by rfl, ?_⟩) (by assumption) ?_
  rotate_left
  · (intro wx hSw; go_simp; (try with_reducible rfl))
  (try simp only [Act.put, List.getElem_toArray, List.getElem_cons_zero, List.getElem_cons_succ, List.setIfInBounds_toArray, List.set_cons_zero, List.set_cons_succ])
  refine wpAnyH_take (i := 7) (v := ?_) rfl (by kernel_rfl) (by kernel_rfl) (by kernel_rfl) (fun _ _ _ h => h) (Or.inl ⟨by rfl, ?_⟩) (by assumption) ?_
  rotate_left
  · (intro wx hSw; go_simp; (try with_reducible rfl))
  (try simp only [Act.put, List.getElem_toArray, List.getElem_cons_zero, List.getElem_cons_succ, List.setIfInBounds_toArray, List.set_cons_zero, List.set_cons_succ])
  refine wpAnyH_take (i := 8) (v := ?_) rfl (by kernel_rfl) (by kernel_rfl) (by kernel_rfl) (fun _ _ _ h => h) (Or.inl ⟨by rfl, ?_⟩) (by assumption) ?_
  rotate_left
  · (intro wx hSw; go_simp; (try with_reducible rfl))
  (try simp only [Act.put, List.getElem_toArray, List.getElem_cons_zero, List.getElem_cons_succ, List.setIfInBounds_toArray, List.set_cons_zero, List.set_cons_succ])
  refine wpAnyH_take (i := 9) (v := ?_) rfl (by kernel_rfl) (by kernel_rfl) (by kernel_rfl) (fun _ _ _ h => h) (Or.inl ⟨by rfl, ?_⟩) (by assumption) ?_
  rotate_left
  · (intro wx hSw; go_simp; (try with_reducible rfl))
  (try simp only [Act.put, List.getElem_toArray, List.getElem_cons_zero, List.getElem_cons_succ, List.setIfInBounds_toArray, List.set_cons_zero, List.set_cons_succ])
  refine wpAnyH_take (i := 10) (v := ?_) rfl (by kernel_rfl) (by kernel_rfl) (by kernel_rfl) (fun _ _ _ h => h) (Or.inl ⟨by rfl, ?_⟩) (by assumption) ?_
  rotate_left
  · (intro wx hSw; go_simp; (try with_reducible rfl))
  (try simp only [Act.put, List.getElem_toArray, List.getElem_cons_zero, List.getElem_cons_succ, List.setIfInBounds_toArray, List.set_cons_zero, List.set_cons_succ])
  refine wpAnyH_take (i := 11) (v := ?_) rfl (by kernel_rfl) (by kernel_rfl) (by kernel_rfl) (fun _ _ _ h => h) (Or.inl ⟨by rfl, ?_⟩) (by assumption) ?_
  rotate_left
  · (intro wx hSw; go_simp; (try with_reducible rfl))
  (try simp only [Act.put, List.getElem_toArray, List.getElem_cons_zero, List.getElem_cons_succ, List.setIfInBounds_toArray, List.set_cons_zero, List.set_cons_succ])
  refine wpAnyH_take (i := 14) (v := ?_) rfl (by kernel_rfl) (by kernel_rfl) (by kernel_rfl) (fun _ _ _ h => h) (Or.inl ⟨by rfl, ?_⟩) (by assumption) ?_
  rotate_left
  · (intro wx hSw; have k0 : wx.cell? ⟨g, 0, none⟩ = some (.int .u64 0) := hSw.out.1.cell 0; have k1 : wx.cell? ⟨g, 1, none⟩ = some (.int .i64 ext) := hSw.out.1.cell 1; have k2 : wx.cell? ⟨g, 2, none⟩ = some (.pointer none) := hSw.out.1.cell 2; go_simp; (try with_reducible rfl))
  (try simp only [Act.put, List.getElem_toArray, List.getElem_cons_zero, List.getElem_cons_succ, List.setIfInBounds_toArray, List.set_cons_zero, List.set_cons_succ])
  refine wpAnyH_ready (rs := [12]) (by kernel_rfl) (by simp) ?_
  refine (AllReadyH.cons rfl (fun K hK => ?_) AllReadyH.nil)
  go_simp
  go_at_call 141
  refine (nsec_any g 0 ext (by decide) _ hHeld.out.1).mono ?_
  rintro e w3 ⟨rfl, rfl⟩
  have HN := Lib.hid hHeld.out
  refine hK.out _ _ HN (fun hH2 => ?_)
  clear hK K hHeld 
  have hHeld := hH2
  clear hH2
  (try simp only [Act.put, List.getElem_toArray, List.getElem_cons_zero, List.getElem_cons_succ, List.setIfInBounds_toArray, List.set_cons_zero, List.set_cons_succ])
  refine wpAnyH_take (i := 13) (v := ?_) rfl (by kernel_rfl) (by kernel_rfl) (by kernel_rfl) (fun _ _ _ h => h) (Or.inl ⟨by rfl, ?_⟩) (by assumption) ?_
  rotate_left
  · (intro wx hSw; go_simp; (try with_reducible rfl))
  (try simp only [Act.put, List.getElem_toArray, List.getElem_cons_zero, List.getElem_cons_succ, List.setIfInBounds_toArray, List.set_cons_zero, List.set_cons_succ])
  refine wpAnyH_ready (rs := [15]) (by kernel_rfl) (by simp) ?_
  refine (AllReadyH.cons rfl (fun K hK => ?_) AllReadyH.nil)
  go_simp
  go_at_call 191
  refine (location_any 0 ext (by decide) he (by omega) _).mono ?_
  rintro e w3 ⟨u, hul, rfl, hu3, hb3⟩
  have HN : Hid (TmAt w3 g 0 ext ∧ Below w.heap.size w w3) := ⟨hHeld.out.1.below hb3, hHeld.out.2.trans ((hb3).mono hHeld.out.2.size)⟩
  have HZ2 : Hid (RowAt w3 (g + 1) 95 #[.int .u64 0, .int .i64 0, .pointer none]) := RowAt.below HZ1.out hb3
  have HU3 := Lib.hid hu3
  clear hu3 hb3
  refine hK.out _ _ HN (fun hH2 => ?_)
  clear hK K hHeld 
  have hHeld := hH2
  clear hH2
  (try simp only [Act.put, List.getElem_toArray, List.getElem_cons_zero, List.getElem_cons_succ, List.setIfInBounds_toArray, List.set_cons_zero, List.set_cons_succ])
  refine wpAnyH_ready (rs := [16]) (by kernel_rfl) (by simp) ?_
  refine (AllReadyH.cons rfl (fun K hK => ?_) AllReadyH.nil)
  go_simp
  go_at_call 195
  rw [WY.out, WM.out, WD.out, W0.out]
  refine (dateU_any _ _ _ _ _ _ Y M hYM.out (by omega) (by omega) (by omega) (by omega) (by omega) (by omega) (by omega) (by omega) (by omega) (by omega) (by omega) u _ HU3.out).mono ?_
  rintro e w4 ⟨rfl, hb4⟩
  have HN : Hid (TmAt w4 g 0 ext ∧ Below w.heap.size w w4) := ⟨hHeld.out.1.below hb4, hHeld.out.2.trans ((hb4).mono hHeld.out.2.size)⟩
  have HZ3 : Hid (RowAt w4 (g + 1) 95 #[.int .u64 0, .int .i64 0, .pointer none]) := RowAt.below HZ2.out hb4
  clear hb4
  rw [HX.out]
  refine hK.out _ _ HN (fun hH2 => ?_)
  clear hK K hHeld 
  have hHeld := hH2
  clear hH2
  (try simp only [Act.put, List.getElem_toArray, List.getElem_cons_zero, List.getElem_cons_succ, List.setIfInBounds_toArray, List.set_cons_zero, List.set_cons_succ])
  refine wpAnyH_ready (rs := [17]) (by kernel_rfl) (by simp) ?_
  refine (AllReadyH.cons rfl (fun K hK => ?_) AllReadyH.nil)
  have c0 : w4.cell? ⟨g + 1, 0, none⟩ = some (.int .u64 0) := HZ3.out.cell 0
  have c1 : w4.cell? ⟨g + 1, 1, none⟩ = some (.int .i64 0) := HZ3.out.cell 1
  have c2 : w4.cell? ⟨g + 1, 2, none⟩ = some (.pointer none) := HZ3.out.cell 2
  have f0 := HZ3.out.free 0
  have f1 := HZ3.out.free 1
  have f2 := HZ3.out.free 2
  have HN : Hid (TmAt (((w4.setCell ⟨g + 1, 0, none⟩ (.int .u64 0)).setCell ⟨g + 1, 1, none⟩ (.int .i64 X)).setCell ⟨g + 1, 2, none⟩ (.pointer none)) g 0 ext ∧ Below w.heap.size w (((w4.setCell ⟨g + 1, 0, none⟩ (.int .u64 0)).setCell ⟨g + 1, 1, none⟩ (.int .i64 X)).setCell ⟨g + 1, 2, none⟩ (.pointer none))) := ⟨hHeld.out.1.set3 (by omega) _ _ _, below_set3 hHeld.out.2 (by omega) _ _ _⟩
  go_simp
  refine hK.out _ _ HN (fun hH2 => ?_)
  clear hK K hHeld
  (try simp only [Act.put, List.getElem_toArray, List.getElem_cons_zero, List.getElem_cons_succ, List.setIfInBounds_toArray, List.set_cons_zero, List.set_cons_succ])
  refine wpAnyH_done (by kernel_rfl) ?_ _
  go_wp2_with fail
  refine bodyPost_ret (v := .agg #[.int .u64 0, .int .i64 (X), .pointer none]) (by simp [results, Tryz.results196, go_sem, c0, c1, c2, f0, f1, f2]) rfl ⟨rfl, HN.out.2⟩

end Go.Proofs.YtkhggefbkhdimaaGreatDoor
