/- impl.Next in UTC. -/
import Derived.Test.YtkhggefbkhdimaaGreatDoorTnA
namespace Go.Proofs.YtkhggefbkhdimaaGreatDoor
open Go.RowKit
set_option linter.unusedVariables false
set_option linter.unusedSimpArgs false

/-- A schedule of sets as the thin package has it. -/
abbrev schA (s : Sched) (dl : Int) : Array Value := #[.bool false, .int .i64 dl, .int .u64 s.se, .int .u64 s.mi, .int .u64 s.ho, .int .u64 s.dom, .int .u64 s.mo, .int .u64 s.dow]
theorem next_nil (p : Nat) (w : World) : (nilAhead 401 103 (.pointer (some ⟨p, 0, none⟩)) "Next").run Tryz.prog w = .ok (some false) w := by kernel_rfl
theorem next_meth (p : Nat) (w : World) : (method 401 103 (.pointer (some ⟨p, 0, none⟩)) "Next").run Tryz.prog w = .ok (190, .pointer (some ⟨p, 0, none⟩)) w := by kernel_rfl
theorem RowAt.set2 {w : World} {g h : Nat} {t : TypeId} {cs : Array Value} (k : RowAt w g t cs) (hne : g ≠ h) (a b : Value) : RowAt ((w.setCell ⟨h, 0, none⟩ a).setCell ⟨h, 1, none⟩ b) g t cs := by
  unfold RowAt
  rw [Below.heap_setCell _ _ _ _ hne, Below.heap_setCell _ _ _ _ hne]
  exact k
theorem below_set2 {w0 w : World} {B h : Nat} (k : Below B w0 w) (hB : B ≤ h) (a b : Value) : Below B w0 ((w.setCell ⟨h, 0, none⟩ a).setCell ⟨h, 1, none⟩ b) :=
  (k.setCell (p := ⟨h, 0, none⟩) hB a).setCell (p := ⟨h, 1, none⟩) hB b
abbrev zoneA : Array Value := #[.slice none 0 0, .slice none 0 0, .slice none 0 0, .slice none 0 0]

set_option maxHeartbeats 400000 in
theorem schedule_any (s : Sched) (dl : Int) (w : World) :
    Calls Tryz.prog 48 #[.agg #[.bool false, .int .i64 dl, .int .u64 s.se, .int .u64 s.mi, .int .u64 s.ho, .int .u64 s.dom, .int .u64 s.mo, .int .u64 s.dow], .pointer none] w fun e w' => ∃ p, e = .returned (.iface 103 (.pointer (some ⟨p, 0, none⟩))) ∧ SchedAt w' p s ∧ Below w.heap.size w w' := by
  go_enter Tryz.func48, Tryz.ntmps48
  go_wp2_with fail
  go_ret
  exact ⟨w.heap.size + 1, by simp, rowAt_last _ _ _ _ (by simp), (by repeat (first | (with_reducible assumption) | (with_reducible exact Below.refl _ _) | (with_reducible refine Below.setCell ?_ (by first | omega | (simp <;> omega)) _) | refine below_drewN ?_ _ | refine Below.drew ?_ | refine Below.alloc ?_ (by first | omega | (simp <;> omega)) _))⟩

set_option maxHeartbeats 400000 in
theorem locationUtc_any (w : World) :
    Calls Tryz.prog 50 #[.agg #[.slice none 0 0, .slice none 0 0, .slice none 0 0, .slice none 0 0]] w fun e w' => ∃ u, e = .returned (.pointer (some ⟨u, 0, none⟩)) ∧ UtcAt w' u ∧ Below w.heap.size w w' := by
  go_enter Tryz.func50, Tryz.ntmps50
  go_wp2_with fail
  refine (utc_any _).mono ?_
  rintro e w1 ⟨rfl, rfl⟩
  go_wp2_with fail
  go_ret
  exact ⟨w.heap.size + 1, by simp, rowAt_last _ _ _ _ (by simp), (by repeat (first | (with_reducible assumption) | (with_reducible exact Below.refl _ _) | (with_reducible refine Below.setCell ?_ (by first | omega | (simp <;> omega)) _) | refine below_drewN ?_ _ | refine Below.drew ?_ | refine Below.alloc ?_ (by first | omega | (simp <;> omega)) _))⟩

set_option maxHeartbeats 400000 in
theorem moment_any (sec : Int) (ns u : Nat) (hn : ns < 1000000000) (h0 : -62135596800 ≤ sec) (h1 : sec < 300000000000) (w : World) (hu : UtcAt w u) :
    Calls Tryz.prog 49 #[.agg #[.int .i64 sec, .int .i64 ns], .pointer (some ⟨u, 0, none⟩)] w fun e w' => e = .returned (.agg #[.int .u64 ns, .int .i64 (sec + 62135596800), .pointer none]) ∧ Below w.heap.size w w' := by
  have lt := hu.lt
  go_enter Tryz.func49, Tryz.ntmps49
  go_wp2_with fail
  refine (unix_any ns sec hn (by omega) (by omega) _).mono ?_
  rintro e w1 ⟨rfl, hb⟩
  have R1 : RowAt w1 (w.heap.size + 1) 95 #[.int .u64 0, .int .i64 0, .pointer none] := RowAt.below (rowAt_last (w.alloc (.cells #[.int .i64 sec, .int .i64 ns] 48)) _ _ _ (by simp)) hb
  have hu1 : UtcAt w1 u := RowAt.below ((hu.alloc _).alloc _) hb
  have b1 : Below w.heap.size w w1 := Below.trans (by repeat (first | (with_reducible assumption) | (with_reducible exact Below.refl _ _) | (with_reducible refine Below.setCell ?_ (by first | omega | (simp <;> omega)) _) | refine below_drewN ?_ _ | refine Below.drew ?_ | refine Below.alloc ?_ (by first | omega | (simp <;> omega)) _)) (hb.mono (by simp; omega))
  clear hb
  go_wp2_with fail
  refine (in_any ns (sec + 62135596800) hn (by omega) (by omega) u _ hu1).mono ?_
  rintro e w2 ⟨rfl, hb⟩
  have R2 : RowAt w2 (w.heap.size + 1) 95 #[.int .u64 0, .int .i64 0, .pointer none] := R1.below hb
  have b2 : Below w.heap.size w w2 := b1.trans (hb.mono b1.size)
  clear hb
  have z0 : w2.cell? ⟨w.heap.size + 1, 0, none⟩ = some (.int .u64 0) := R2.cell 0
  have z1 : w2.cell? ⟨w.heap.size + 1, 1, none⟩ = some (.int .i64 0) := R2.cell 1
  have z2 : w2.cell? ⟨w.heap.size + 1, 2, none⟩ = some (.pointer none) := R2.cell 2
  have f0 := R2.free 0
  have f1 := R2.free 1
  have f2 := R2.free 2
  have lt2 := R2.lt
  go_wp2_with fail
  refine bodyPost_ret (v := .agg #[.int .u64 ns, .int .i64 (sec + 62135596800), .pointer none]) (by simp [results, Tryz.results49, go_sem, z0, z1, z2, f0, f1, f2]) rfl ⟨rfl, ?_⟩
  exact (by repeat (first | (with_reducible assumption) | (with_reducible exact Below.refl _ _) | (with_reducible refine Below.setCell ?_ (by first | omega | (simp <;> omega)) _) | refine below_drewN ?_ _ | refine Below.drew ?_ | refine Below.alloc ?_ (by first | omega | (simp <;> omega)) _))

set_option maxRecDepth 100000 in
set_option maxHeartbeats 1000000 in
theorem plainMoment_any (r : Int) (h0 : 0 ≤ r) (h1 : r < 600000000000) (w : World) :
    Calls Tryz.prog 87 #[.agg #[.int .u64 0, .int .i64 r, .pointer none]] w fun e w' => e = .returned (.agg #[.int .i64 (r - 62135596800), .int .i64 0]) ∧ Below w.heap.size w w' := by
  go_enter Tryz.func87, Tryz.ntmps87
  go_wp2_with fail
  obtain ⟨g, hg⟩ : ∃ g, g = w.heap.size := ⟨_, rfl⟩
  have HS : Hid (TmAt ((w.alloc (.cells #[.int .u64 0, .int .i64 r, .pointer none] 95)).alloc (.cells #[.int .i64 0, .int .i64 0] 48)) g 0 r ∧ RowAt ((w.alloc (.cells #[.int .u64 0, .int .i64 r, .pointer none] 95)).alloc (.cells #[.int .i64 0, .int .i64 0] 48)) (g + 1) 48 #[.int .i64 0, .int .i64 0] ∧ Below w.heap.size w ((w.alloc (.cells #[.int .u64 0, .int .i64 r, .pointer none] 95)).alloc (.cells #[.int .i64 0, .int .i64 0] 48))) := by
    rw [hg]
    exact ⟨(rowAt_last w _ _ _ rfl).alloc _, rowAt_last (w.alloc (.cells #[.int .u64 0, .int .i64 r, .pointer none] 95)) 48 #[.int .i64 0, .int .i64 0] _ (by simp), (by repeat (first | (with_reducible assumption) | (with_reducible exact Below.refl _ _) | (with_reducible refine Below.setCell ?_ (by first | omega | (simp <;> omega)) _) | refine below_drewN ?_ _ | refine Below.drew ?_ | refine Below.alloc ?_ (by first | omega | (simp <;> omega)) _))⟩
  have hgw : w.heap.size ≤ g := by omega
  rw [← hg]
  clear hg
  refine wp_region_to (S := fun w' => Hid (TmAt w' g 0 r ∧ RowAt w' (g + 1) 48 #[.int .i64 0, .int .i64 0] ∧ Below w.heap.size w w')) 5 (by kernel_rfl) (Lib.hid ⟨HS.out.1, HS.out.2.1, HS.out.2.2.drew⟩) (fun hHeld => ?_)
  (try simp only [Act.put, List.getElem_toArray, List.getElem_cons_zero, List.getElem_cons_succ, List.setIfInBounds_toArray, List.set_cons_zero, List.set_cons_succ])
  clear HS
  refine wpTo_take (i := 0) (v := ?_) rfl (by kernel_rfl) (by kernel_rfl) (by kernel_rfl) (by kernel_rfl) (fun _ _ _ h => h) (Or.inl ⟨by rfl, ?_⟩) (by assumption) ?_
  rotate_left
  · (intro wx hSw; have k0 : wx.cell? ⟨g, 0, none⟩ = some (.int .u64 0) := hSw.out.1.cell 0; have k1 : wx.cell? ⟨g, 1, none⟩ = some (.int .i64 r) := hSw.out.1.cell 1; have k2 : wx.cell? ⟨g, 2, none⟩ = some (.pointer none) := hSw.out.1.cell 2; go_simp; (try with_reducible rfl))
  (try simp only [Act.put, List.getElem_toArray, List.getElem_cons_zero, List.getElem_cons_succ, List.setIfInBounds_toArray, List.set_cons_zero, List.set_cons_succ])
  refine wpTo_take (i := 2) (v := ?_) rfl (by kernel_rfl) (by kernel_rfl) (by kernel_rfl) (by kernel_rfl) (fun _ _ _ h => h) (Or.inl ⟨by rfl, ?_⟩) (by assumption) ?_
  rotate_left
  · (intro wx hSw; have k0 : wx.cell? ⟨g, 0, none⟩ = some (.int .u64 0) := hSw.out.1.cell 0; have k1 : wx.cell? ⟨g, 1, none⟩ = some (.int .i64 r) := hSw.out.1.cell 1; have k2 : wx.cell? ⟨g, 2, none⟩ = some (.pointer none) := hSw.out.1.cell 2; go_simp; (try with_reducible rfl))
  (try simp only [Act.put, List.getElem_toArray, List.getElem_cons_zero, List.getElem_cons_succ, List.setIfInBounds_toArray, List.set_cons_zero, List.set_cons_succ])
  refine wpTo_one (i := 1) (by kernel_rfl) rfl (fun K hK => ?_)
  go_simp
  go_at_call 114
  refine (tUnix_any 0 r (by decide) h0 (by omega) _).mono ?_
  rintro e w1 ⟨rfl, hb1⟩
  have HN : Hid (TmAt w1 g 0 r ∧ RowAt w1 (g + 1) 48 #[.int .i64 0, .int .i64 0] ∧ Below w.heap.size w w1) := ⟨hHeld.out.1.below hb1, hHeld.out.2.1.below hb1, hHeld.out.2.2.trans ((hb1).mono hHeld.out.2.2.size)⟩
  clear hb1
  refine hK.out _ _ (Or.inr HN) (fun _ => ?_)
  clear hK K hHeld 
  have hHeld := HN
  clear HN
  (try simp only [Act.put, List.getElem_toArray, List.getElem_cons_zero, List.getElem_cons_succ, List.setIfInBounds_toArray, List.set_cons_zero, List.set_cons_succ])
  refine wpTo_one (i := 3) (by kernel_rfl) rfl (fun K hK => ?_)
  go_simp
  go_at_call 115
  refine (tNanosecond_any 0 r (by decide) h0 (by omega) _).mono ?_
  rintro e w2 ⟨rfl, hb1⟩
  have HN : Hid (TmAt w2 g 0 r ∧ RowAt w2 (g + 1) 48 #[.int .i64 0, .int .i64 0] ∧ Below w.heap.size w w2) := ⟨hHeld.out.1.below hb1, hHeld.out.2.1.below hb1, hHeld.out.2.2.trans ((hb1).mono hHeld.out.2.2.size)⟩
  clear hb1
  refine hK.out _ _ (Or.inr HN) (fun _ => ?_)
  clear hK K hHeld 
  have hHeld := HN
  clear HN
  (try simp only [Act.put, List.getElem_toArray, List.getElem_cons_zero, List.getElem_cons_succ, List.setIfInBounds_toArray, List.set_cons_zero, List.set_cons_succ])
  refine wpTo_take (i := 4) (v := ?_) rfl (by kernel_rfl) (by kernel_rfl) (by kernel_rfl) (by kernel_rfl) (fun _ _ _ h => h) (Or.inl ⟨by rfl, ?_⟩) (by assumption) ?_
  rotate_left
  · (intro wx hSw; go_simp; (try with_reducible rfl))
  (try simp only [Act.put, List.getElem_toArray, List.getElem_cons_zero, List.getElem_cons_succ, List.setIfInBounds_toArray, List.set_cons_zero, List.set_cons_succ])
  refine wpTo_one (i := 5) (by kernel_rfl) rfl (fun K hK => ?_)
  have c0 : w2.cell? ⟨g + 1, 0, none⟩ = some (.int .i64 0) := hHeld.out.2.1.cell 0
  have c1 : w2.cell? ⟨g + 1, 1, none⟩ = some (.int .i64 0) := hHeld.out.2.1.cell 1
  have f0 := hHeld.out.2.1.free 0
  have f1 := hHeld.out.2.1.free 1
  go_simp
  refine hK.out _ _ (Or.inl rfl) (fun _ => ?_)
  clear hK K
  (try simp only [Act.put, List.getElem_toArray, List.getElem_cons_zero, List.getElem_cons_succ, List.setIfInBounds_toArray, List.set_cons_zero, List.set_cons_succ])
  refine wpTo_done (by kernel_rfl) ?_ _
  have B9 := hHeld.out.2.2
  go_wp2_with fail
  refine bodyPost_ret (v := .agg #[.int .i64 (r - 62135596800), .int .i64 0]) (by simp [results, Tryz.results87, go_sem, c0, c1, f0, f1]) rfl ⟨rfl, ?_⟩
  exact (by repeat (first | (with_reducible assumption) | (with_reducible exact Below.refl _ _) | (with_reducible refine Below.setCell ?_ (by first | omega | (simp <;> omega)) _) | refine below_drewN ?_ _ | refine Below.drew ?_ | refine Below.alloc ?_ (by first | omega | (simp <;> omega)) _))

set_option maxHeartbeats 400000 in
theorem answerNo  (w : World) :
    Calls Tryz.prog 47 #[.agg #[.int .u64 0, .int .i64 0, .pointer none]] w fun e w' => e = .returned (.tuple #[.agg #[.int .i64 (0), .int .i64 0], .bool false]) ∧ Below w.heap.size w w' := by
  go_enter Tryz.func47, Tryz.ntmps47
  go_wp2_with fail
  refine (isZeroYes _).mono ?_
  rintro e w1 ⟨rfl, hb⟩
  have R1 : RowAt w1 w.heap.size 95 #[.int .u64 0, .int .i64 0, .pointer none] := RowAt.below ((rowAt_last w _ _ _ rfl).alloc (.cells #[.int .i64 0, .int .i64 0] 48)) hb
  have Z1 : RowAt w1 (w.heap.size + 1) 48 #[.int .i64 0, .int .i64 0] := RowAt.below (rowAt_last (w.alloc (.cells #[.int .u64 0, .int .i64 0, .pointer none] 95)) 48 #[.int .i64 0, .int .i64 0] _ (by simp)) hb
  have b1 : Below w.heap.size w w1 := Below.trans (by repeat (first | (with_reducible assumption) | (with_reducible exact Below.refl _ _) | (with_reducible refine Below.setCell ?_ (by first | omega | (simp <;> omega)) _) | refine below_drewN ?_ _ | refine Below.drew ?_ | refine Below.alloc ?_ (by first | omega | (simp <;> omega)) _)) (hb.mono (by simp; omega))
  clear hb
  have c0 : w1.cell? ⟨w.heap.size + 1, 0, none⟩ = some (.int .i64 0) := Z1.cell 0
  have c1 : w1.cell? ⟨w.heap.size + 1, 1, none⟩ = some (.int .i64 0) := Z1.cell 1
  have f0 := Z1.free 0
  have f1 := Z1.free 1
  have lt2 := Z1.lt
  go_wp2_with fail
  refine bodyPost_ret (v := .tuple #[.agg #[.int .i64 0, .int .i64 0], .bool false]) (by simp [results, Tryz.results47, go_sem, c0, c1, f0, f1]) rfl ⟨rfl, ?_⟩
  exact (by repeat (first | (with_reducible assumption) | (with_reducible exact Below.refl _ _) | (with_reducible refine Below.setCell ?_ (by first | omega | (simp <;> omega)) _) | refine below_drewN ?_ _ | refine Below.drew ?_ | refine Below.alloc ?_ (by first | omega | (simp <;> omega)) _))

set_option maxHeartbeats 400000 in
theorem answerYes (r : Int) (h0 : 0 < r) (h1 : r < 600000000000) (w : World) :
    Calls Tryz.prog 47 #[.agg #[.int .u64 0, .int .i64 r, .pointer none]] w fun e w' => e = .returned (.tuple #[.agg #[.int .i64 (r - 62135596800), .int .i64 0], .bool true]) ∧ Below w.heap.size w w' := by
  go_enter Tryz.func47, Tryz.ntmps47
  go_wp2_with fail
  refine (isZeroNo r h0 _).mono ?_
  rintro e w1 ⟨rfl, hb⟩
  have R1 : RowAt w1 w.heap.size 95 #[.int .u64 0, .int .i64 r, .pointer none] := RowAt.below ((rowAt_last w _ _ _ rfl).alloc (.cells #[.int .i64 0, .int .i64 0] 48)) hb
  have Z1 : RowAt w1 (w.heap.size + 1) 48 #[.int .i64 0, .int .i64 0] := RowAt.below (rowAt_last (w.alloc (.cells #[.int .u64 0, .int .i64 r, .pointer none] 95)) 48 #[.int .i64 0, .int .i64 0] _ (by simp)) hb
  have b1 : Below w.heap.size w w1 := Below.trans (by repeat (first | (with_reducible assumption) | (with_reducible exact Below.refl _ _) | (with_reducible refine Below.setCell ?_ (by first | omega | (simp <;> omega)) _) | refine below_drewN ?_ _ | refine Below.drew ?_ | refine Below.alloc ?_ (by first | omega | (simp <;> omega)) _)) (hb.mono (by simp; omega))
  clear hb
  have k0 : w1.cell? ⟨w.heap.size, 0, none⟩ = some (.int .u64 0) := R1.cell 0
  have k1 : w1.cell? ⟨w.heap.size, 1, none⟩ = some (.int .i64 r) := R1.cell 1
  have k2 : w1.cell? ⟨w.heap.size, 2, none⟩ = some (.pointer none) := R1.cell 2
  go_wp2_with fail
  refine (plainMoment_any r (by omega) h1 _).mono ?_
  rintro e w2 ⟨rfl, hb⟩
  have Z2 := Z1.below hb
  have b2 := b1.trans (hb.mono b1.size)
  clear hb k0 k1 k2 b1 Z1 R1
  have c0 : w2.cell? ⟨w.heap.size + 1, 0, none⟩ = some (.int .i64 0) := Z2.cell 0
  have c1 : w2.cell? ⟨w.heap.size + 1, 1, none⟩ = some (.int .i64 0) := Z2.cell 1
  have f0 := Z2.free 0
  have f1 := Z2.free 1
  have lt2 := Z2.lt
  go_wp2_with fail
  refine bodyPost_ret (v := .tuple #[.agg #[.int .i64 (r - 62135596800), .int .i64 0], .bool true]) (by simp [results, Tryz.results47, go_sem, c0, c1, f0, f1]) rfl ⟨rfl, ?_⟩
  exact (by repeat (first | (with_reducible assumption) | (with_reducible exact Below.refl _ _) | (with_reducible refine Below.setCell ?_ (by first | omega | (simp <;> omega)) _) | refine below_drewN ?_ _ | refine Below.drew ?_ | refine Below.alloc ?_ (by first | omega | (simp <;> omega)) _))

def ansX (r : Int) : Int := if r = 0 then 0 else r - 62135596800
def ansB (r : Int) : Bool := decide (0 < r)
theorem NextIs.bd {s : Sched} {first lim r : Int} (h : NextIs s first lim r) (h0 : 0 ≤ first) (hl : lim ≤ 10011) : 0 ≤ r ∧ r < 319000000000 := by
  rcases h with ⟨h1, -, h3, -⟩ | ⟨rfl, -⟩
  · exact ⟨by omega, yr_bound (by omega)⟩
  · omega
set_option maxHeartbeats 400000 in
theorem answer_any (r : Int) (h0 : 0 ≤ r) (h1 : r < 600000000000) (w : World) :
    Calls Tryz.prog 47 #[.agg #[.int .u64 0, .int .i64 r, .pointer none]] w fun e w' => e = .returned (.tuple #[.agg #[.int .i64 (ansX r), .int .i64 0], .bool (ansB r)]) ∧ Below w.heap.size w w' := by
  by_cases h : r = 0
  · subst h; exact answerNo w
  · have e1 : ansX r = r - 62135596800 := by unfold ansX; rw [if_neg h]
    have e2 : ansB r = true := decide_eq_true (by omega)
    rw [e1, e2]; exact answerYes r (by omega) h1 w

set_option maxRecDepth 100000 in
set_option maxHeartbeats 4000000 in
theorem implNext_any (s : Sched) (hok : Hid s.ok) (dl sec : Int) (ns : Nat) (hn : ns < 1000000000) (h0 : -62135596800 ≤ sec) (h1 : sec ≤ 253402300799) (first Y0 : Int) (Hf : Hid (first = sec + 62135596800 + 1)) (HY0 : Hid (yearOf (dayN (sec + 62135596800 + 1)) = Y0)) (yb0 : 1 ≤ Y0 ∧ Y0 ≤ 10000) (w : World) :
    Calls Tryz.prog 20 #[.agg #[.bool false, .int .i64 dl, .int .u64 s.se, .int .u64 s.mi, .int .u64 s.ho, .int .u64 s.dom, .int .u64 s.mo, .int .u64 s.dow], .agg #[.int .i64 sec, .int .i64 ns], .agg #[.slice none 0 0, .slice none 0 0, .slice none 0 0, .slice none 0 0]] w fun e w' => ∃ r, Hid (NextIs s first (Y0 + 5) r) ∧ e = .returned (.tuple #[.agg #[.int .i64 (ansX r), .int .i64 0], .bool (ansB r)]) ∧ Below w.heap.size w w' := by
  have hnil := next_nil
  have hmeth := next_meth
  go_enter Tryz.func20, Tryz.ntmps20
  go_wp2_with fail
  obtain ⟨g, hg⟩ : ∃ g, g = w.heap.size := ⟨_, rfl⟩
  have HS : Hid (RowAt ((((w.alloc (.cells #[.bool false, .int .i64 dl, .int .u64 s.se, .int .u64 s.mi, .int .u64 s.ho, .int .u64 s.dom, .int .u64 s.mo, .int .u64 s.dow] 24)).alloc (.cells #[.int .i64 sec, .int .i64 ns] 48)).alloc (.cells #[.slice none 0 0, .slice none 0 0, .slice none 0 0, .slice none 0 0] 57)).alloc (.cells #[.int .i64 0, .int .i64 0] 48)) g 24 #[.bool false, .int .i64 dl, .int .u64 s.se, .int .u64 s.mi, .int .u64 s.ho, .int .u64 s.dom, .int .u64 s.mo, .int .u64 s.dow] ∧ RowAt ((((w.alloc (.cells #[.bool false, .int .i64 dl, .int .u64 s.se, .int .u64 s.mi, .int .u64 s.ho, .int .u64 s.dom, .int .u64 s.mo, .int .u64 s.dow] 24)).alloc (.cells #[.int .i64 sec, .int .i64 ns] 48)).alloc (.cells #[.slice none 0 0, .slice none 0 0, .slice none 0 0, .slice none 0 0] 57)).alloc (.cells #[.int .i64 0, .int .i64 0] 48)) (g + 1) 48 #[.int .i64 sec, .int .i64 ns] ∧ RowAt ((((w.alloc (.cells #[.bool false, .int .i64 dl, .int .u64 s.se, .int .u64 s.mi, .int .u64 s.ho, .int .u64 s.dom, .int .u64 s.mo, .int .u64 s.dow] 24)).alloc (.cells #[.int .i64 sec, .int .i64 ns] 48)).alloc (.cells #[.slice none 0 0, .slice none 0 0, .slice none 0 0, .slice none 0 0] 57)).alloc (.cells #[.int .i64 0, .int .i64 0] 48)) (g + 2) 57 #[.slice none 0 0, .slice none 0 0, .slice none 0 0, .slice none 0 0] ∧ Below w.heap.size w ((((w.alloc (.cells #[.bool false, .int .i64 dl, .int .u64 s.se, .int .u64 s.mi, .int .u64 s.ho, .int .u64 s.dom, .int .u64 s.mo, .int .u64 s.dow] 24)).alloc (.cells #[.int .i64 sec, .int .i64 ns] 48)).alloc (.cells #[.slice none 0 0, .slice none 0 0, .slice none 0 0, .slice none 0 0] 57)).alloc (.cells #[.int .i64 0, .int .i64 0] 48)) ∧ RowAt ((((w.alloc (.cells #[.bool false, .int .i64 dl, .int .u64 s.se, .int .u64 s.mi, .int .u64 s.ho, .int .u64 s.dom, .int .u64 s.mo, .int .u64 s.dow] 24)).alloc (.cells #[.int .i64 sec, .int .i64 ns] 48)).alloc (.cells #[.slice none 0 0, .slice none 0 0, .slice none 0 0, .slice none 0 0] 57)).alloc (.cells #[.int .i64 0, .int .i64 0] 48)) (g + 3) 48 #[.int .i64 0, .int .i64 0]) := by
    rw [hg]
    exact ⟨(((rowAt_last w _ _ _ rfl).alloc _).alloc _).alloc _, ((rowAt_last (w.alloc (.cells #[.bool false, .int .i64 dl, .int .u64 s.se, .int .u64 s.mi, .int .u64 s.ho, .int .u64 s.dom, .int .u64 s.mo, .int .u64 s.dow] 24)) _ _ _ (by simp)).alloc _).alloc _, (rowAt_last ((w.alloc (.cells #[.bool false, .int .i64 dl, .int .u64 s.se, .int .u64 s.mi, .int .u64 s.ho, .int .u64 s.dom, .int .u64 s.mo, .int .u64 s.dow] 24)).alloc (.cells #[.int .i64 sec, .int .i64 ns] 48)) _ _ _ (by simp)).alloc _, (by repeat (first | (with_reducible assumption) | (with_reducible exact Below.refl _ _) | (with_reducible refine Below.setCell ?_ (by first | omega | (simp <;> omega)) _) | refine below_drewN ?_ _ | refine Below.drew ?_ | refine Below.alloc ?_ (by first | omega | (simp <;> omega)) _)), rowAt_last (((w.alloc (.cells #[.bool false, .int .i64 dl, .int .u64 s.se, .int .u64 s.mi, .int .u64 s.ho, .int .u64 s.dom, .int .u64 s.mo, .int .u64 s.dow] 24)).alloc (.cells #[.int .i64 sec, .int .i64 ns] 48)).alloc (.cells #[.slice none 0 0, .slice none 0 0, .slice none 0 0, .slice none 0 0] 57)) 48 #[.int .i64 0, .int .i64 0] _ (by simp)⟩
  have hgw : w.heap.size ≤ g := by omega
  rw [← hg]
  clear hg
  refine wp_named ?_
  intro W0 hW0
  rw [hW0] at HS
  clear hW0
  refine wp_region_held_drew (S := fun w' => Hid (RowAt w' g 24 #[.bool false, .int .i64 dl, .int .u64 s.se, .int .u64 s.mi, .int .u64 s.ho, .int .u64 s.dom, .int .u64 s.mo, .int .u64 s.dow] ∧ RowAt w' (g + 1) 48 #[.int .i64 sec, .int .i64 ns] ∧ RowAt w' (g + 2) 57 #[.slice none 0 0, .slice none 0 0, .slice none 0 0, .slice none 0 0] ∧ Below w.heap.size w w')) (by kernel_rfl) (Lib.hid ⟨HS.out.1, HS.out.2.1, HS.out.2.2.1, HS.out.2.2.2.1.drew⟩) (fun hHeld => ?_)
  (try simp only [Act.put, List.getElem_toArray, List.getElem_cons_zero, List.getElem_cons_succ, List.setIfInBounds_toArray, List.set_cons_zero, List.set_cons_succ])
  have HZ1 : Hid (RowAt W0.drew (g + 3) 48 #[.int .i64 0, .int .i64 0]) := HS.out.2.2.2.2
  clear HS
  refine wpAnyH_take (i := 0) (v := ?_) rfl (by kernel_rfl) (by kernel_rfl) (by kernel_rfl) (fun _ _ _ h => h) (Or.inl ⟨by rfl, ?_⟩) (by assumption) ?_
  rotate_left
  · (intro wx hSw; have k0 : wx.cell? ⟨g, 0, none⟩ = some (.bool false) := hSw.out.1.cell 0; have k1 : wx.cell? ⟨g, 1, none⟩ = some (.int .i64 dl) := hSw.out.1.cell 1; have k2 : wx.cell? ⟨g, 2, none⟩ = some (.int .u64 s.se) := hSw.out.1.cell 2; have k3 : wx.cell? ⟨g, 3, none⟩ = some (.int .u64 s.mi) := hSw.out.1.cell 3; have k4 : wx.cell? ⟨g, 4, none⟩ = some (.int .u64 s.ho) := hSw.out.1.cell 4; have k5 : wx.cell? ⟨g, 5, none⟩ = some (.int .u64 s.dom) := hSw.out.1.cell 5; have k6 : wx.cell? ⟨g, 6, none⟩ = some (.int .u64 s.mo) := hSw.out.1.cell 6; have k7 : wx.cell? ⟨g, 7, none⟩ = some (.int .u64 s.dow) := hSw.out.1.cell 7; go_simp; (try with_reducible rfl))
  (try simp only [Act.put, List.getElem_toArray, List.getElem_cons_zero, List.getElem_cons_succ, List.setIfInBounds_toArray, List.set_cons_zero, List.set_cons_succ])
  refine wpAnyH_take (i := 2) (v := ?_) rfl (by kernel_rfl) (by kernel_rfl) (by kernel_rfl) (fun _ _ _ h => h) (Or.inl ⟨by rfl, ?_⟩) (by assumption) ?_
  rotate_left
  · (intro wx hSw; have k0 : wx.cell? ⟨g + 1, 0, none⟩ = some (.int .i64 sec) := hSw.out.2.1.cell 0; have k1 : wx.cell? ⟨g + 1, 1, none⟩ = some (.int .i64 ns) := hSw.out.2.1.cell 1; go_simp; (try with_reducible rfl))
  (try simp only [Act.put, List.getElem_toArray, List.getElem_cons_zero, List.getElem_cons_succ, List.setIfInBounds_toArray, List.set_cons_zero, List.set_cons_succ])
  refine wpAnyH_take (i := 3) (v := ?_) rfl (by kernel_rfl) (by kernel_rfl) (by kernel_rfl) (fun _ _ _ h => h) (Or.inl ⟨by rfl, ?_⟩) (by assumption) ?_
  rotate_left
  · (intro wx hSw; have k0 : wx.cell? ⟨g + 2, 0, none⟩ = some (.slice none 0 0) := hSw.out.2.2.1.cell 0; have k1 : wx.cell? ⟨g + 2, 1, none⟩ = some (.slice none 0 0) := hSw.out.2.2.1.cell 1; have k2 : wx.cell? ⟨g + 2, 2, none⟩ = some (.slice none 0 0) := hSw.out.2.2.1.cell 2; have k3 : wx.cell? ⟨g + 2, 3, none⟩ = some (.slice none 0 0) := hSw.out.2.2.1.cell 3; go_simp; (try with_reducible rfl))
  (try simp only [Act.put, List.getElem_toArray, List.getElem_cons_zero, List.getElem_cons_succ, List.setIfInBounds_toArray, List.set_cons_zero, List.set_cons_succ])
  refine wpAnyH_ready (rs := [1]) (by kernel_rfl) (by simp) ?_
  refine (AllReadyH.cons rfl (fun K hK => ?_) AllReadyH.nil)
  go_simp
  go_at_call 48
  refine (schedule_any s dl _).mono ?_
  rintro e w1 ⟨p, rfl, hp, hb1⟩
  have HN : Hid (RowAt w1 g 24 #[.bool false, .int .i64 dl, .int .u64 s.se, .int .u64 s.mi, .int .u64 s.ho, .int .u64 s.dom, .int .u64 s.mo, .int .u64 s.dow] ∧ RowAt w1 (g + 1) 48 #[.int .i64 sec, .int .i64 ns] ∧ RowAt w1 (g + 2) 57 #[.slice none 0 0, .slice none 0 0, .slice none 0 0, .slice none 0 0] ∧ Below w.heap.size w w1) := ⟨hHeld.out.1.below hb1, hHeld.out.2.1.below hb1, hHeld.out.2.2.1.below hb1, hHeld.out.2.2.2.trans ((hb1).mono hHeld.out.2.2.2.size)⟩
  have HZ2 : Hid (RowAt w1 (g + 3) 48 #[.int .i64 0, .int .i64 0]) := RowAt.below HZ1.out hb1
  have HP1 := Lib.hid hp
  clear hp hb1
  refine hK.out _ _ HN (fun hH2 => ?_)
  clear hK K hHeld 
  have hHeld := hH2
  clear hH2
  (try simp only [Act.put, List.getElem_toArray, List.getElem_cons_zero, List.getElem_cons_succ, List.setIfInBounds_toArray, List.set_cons_zero, List.set_cons_succ])
  refine wpAnyH_take (i := 6) (v := ?_) rfl (by kernel_rfl) (by kernel_rfl) (by kernel_rfl) (fun _ _ _ h => h) (Or.inl ⟨by rfl, ?_⟩) (by assumption) ?_
  rotate_left
  · (intro wx hSw; go_simp; (try with_reducible rfl))
  (try simp only [Act.put, List.getElem_toArray, List.getElem_cons_zero, List.getElem_cons_succ, List.setIfInBounds_toArray, List.set_cons_zero, List.set_cons_succ])
  refine wpAnyH_take (i := 7) (v := ?_) rfl (by kernel_rfl) (by kernel_rfl) (by kernel_rfl) (fun _ _ _ h => h) (Or.inl ⟨by rfl, ?_⟩) (by assumption) ?_
  rotate_left
  · (intro wx hSw; go_simp; (try with_reducible rfl))
  (try simp only [Act.put, List.getElem_toArray, List.getElem_cons_zero, List.getElem_cons_succ, List.setIfInBounds_toArray, List.set_cons_zero, List.set_cons_succ])
  refine wpAnyH_take (i := 8) (v := ?_) rfl (by kernel_rfl) (by kernel_rfl) (by kernel_rfl) (fun _ _ _ h => h) (Or.inl ⟨by rfl, ?_⟩) (by assumption) ?_
  rotate_left
  · (intro wx hSw; go_simp; (try with_reducible rfl))
  (try simp only [Act.put, List.getElem_toArray, List.getElem_cons_zero, List.getElem_cons_succ, List.setIfInBounds_toArray, List.set_cons_zero, List.set_cons_succ])
  refine wpAnyH_ready (rs := [4]) (by kernel_rfl) (by simp) ?_
  refine (AllReadyH.cons rfl (fun K hK => ?_) AllReadyH.nil)
  go_simp
  go_at_call 50
  refine (locationUtc_any _).mono ?_
  rintro e w2 ⟨u, rfl, hu, hb1⟩
  have HN : Hid (RowAt w2 g 24 #[.bool false, .int .i64 dl, .int .u64 s.se, .int .u64 s.mi, .int .u64 s.ho, .int .u64 s.dom, .int .u64 s.mo, .int .u64 s.dow] ∧ RowAt w2 (g + 1) 48 #[.int .i64 sec, .int .i64 ns] ∧ RowAt w2 (g + 2) 57 #[.slice none 0 0, .slice none 0 0, .slice none 0 0, .slice none 0 0] ∧ Below w.heap.size w w2) := ⟨hHeld.out.1.below hb1, hHeld.out.2.1.below hb1, hHeld.out.2.2.1.below hb1, hHeld.out.2.2.2.trans ((hb1).mono hHeld.out.2.2.2.size)⟩
  have HZ3 : Hid (RowAt w2 (g + 3) 48 #[.int .i64 0, .int .i64 0]) := RowAt.below HZ2.out hb1
  have HP2 : Hid (SchedAt w2 p s) := Lib.hid (HP1.out.below hb1)
  have HU2 := Lib.hid hu
  clear hu hb1 HP1
  refine hK.out _ _ HN (fun hH2 => ?_)
  clear hK K hHeld 
  have hHeld := hH2
  clear hH2
  (try simp only [Act.put, List.getElem_toArray, List.getElem_cons_zero, List.getElem_cons_succ, List.setIfInBounds_toArray, List.set_cons_zero, List.set_cons_succ])
  refine wpAnyH_ready (rs := [5]) (by kernel_rfl) (by simp) ?_
  refine (AllReadyH.cons rfl (fun K hK => ?_) AllReadyH.nil)
  go_simp
  go_at_call 49
  refine (moment_any sec ns u hn h0 (by omega) _ HU2.out).mono ?_
  rintro e w3 ⟨rfl, hb1⟩
  have HN : Hid (RowAt w3 g 24 #[.bool false, .int .i64 dl, .int .u64 s.se, .int .u64 s.mi, .int .u64 s.ho, .int .u64 s.dom, .int .u64 s.mo, .int .u64 s.dow] ∧ RowAt w3 (g + 1) 48 #[.int .i64 sec, .int .i64 ns] ∧ RowAt w3 (g + 2) 57 #[.slice none 0 0, .slice none 0 0, .slice none 0 0, .slice none 0 0] ∧ Below w.heap.size w w3) := ⟨hHeld.out.1.below hb1, hHeld.out.2.1.below hb1, hHeld.out.2.2.1.below hb1, hHeld.out.2.2.2.trans ((hb1).mono hHeld.out.2.2.2.size)⟩
  have HZ4 : Hid (RowAt w3 (g + 3) 48 #[.int .i64 0, .int .i64 0]) := RowAt.below HZ3.out hb1
  have HP3 : Hid (SchedAt w3 p s) := Lib.hid (HP2.out.below hb1)
  clear hb1 HP2 HU2
  refine hK.out _ _ HN (fun hH2 => ?_)
  clear hK K hHeld 
  have hHeld := hH2
  clear hH2
  (try simp only [Act.put, List.getElem_toArray, List.getElem_cons_zero, List.getElem_cons_succ, List.setIfInBounds_toArray, List.set_cons_zero, List.set_cons_succ])
  refine wpAnyH_ready (rs := [9]) (by kernel_rfl) (by simp) ?_
  refine (AllReadyH.cons rfl (fun K hK => ?_) AllReadyH.nil)
  go_simp
  go_at_call 190
  refine (next_walk p s hok ns (sec + 62135596800) hn (by omega) (by omega) _ HP3.out first Y0 Hf HY0 yb0).mono ?_
  rintro e w4 ⟨r, hr, rfl, hb1⟩
  have HN : Hid (RowAt w4 g 24 #[.bool false, .int .i64 dl, .int .u64 s.se, .int .u64 s.mi, .int .u64 s.ho, .int .u64 s.dom, .int .u64 s.mo, .int .u64 s.dow] ∧ RowAt w4 (g + 1) 48 #[.int .i64 sec, .int .i64 ns] ∧ RowAt w4 (g + 2) 57 #[.slice none 0 0, .slice none 0 0, .slice none 0 0, .slice none 0 0] ∧ Below w.heap.size w w4) := ⟨hHeld.out.1.below hb1, hHeld.out.2.1.below hb1, hHeld.out.2.2.1.below hb1, hHeld.out.2.2.2.trans ((hb1).mono hHeld.out.2.2.2.size)⟩
  have HZ5 : Hid (RowAt w4 (g + 3) 48 #[.int .i64 0, .int .i64 0]) := RowAt.below HZ4.out hb1
  clear hb1 HP3
  refine hK.out _ _ HN (fun hH2 => ?_)
  clear hK K hHeld 
  have hHeld := hH2
  clear hH2
  (try simp only [Act.put, List.getElem_toArray, List.getElem_cons_zero, List.getElem_cons_succ, List.setIfInBounds_toArray, List.set_cons_zero, List.set_cons_succ])
  have rb := hr.out.bd (by have := Hf.out; omega) (by omega)
  obtain ⟨x, Hx⟩ : ∃ x, Hid (ansX r = x) := ⟨_, rfl⟩
  obtain ⟨bb, Hb⟩ : ∃ bb, Hid (ansB r = bb) := ⟨_, rfl⟩
  refine wpAnyH_ready (rs := [10]) (by kernel_rfl) (by simp) ?_
  refine (AllReadyH.cons rfl (fun K hK => ?_) AllReadyH.nil)
  go_simp
  go_at_call 47
  refine (answer_any r rb.1 (by omega) _).mono ?_
  rintro e w5 ⟨rfl, hb1⟩
  have HN : Hid (RowAt w5 g 24 #[.bool false, .int .i64 dl, .int .u64 s.se, .int .u64 s.mi, .int .u64 s.ho, .int .u64 s.dom, .int .u64 s.mo, .int .u64 s.dow] ∧ RowAt w5 (g + 1) 48 #[.int .i64 sec, .int .i64 ns] ∧ RowAt w5 (g + 2) 57 #[.slice none 0 0, .slice none 0 0, .slice none 0 0, .slice none 0 0] ∧ Below w.heap.size w w5) := ⟨hHeld.out.1.below hb1, hHeld.out.2.1.below hb1, hHeld.out.2.2.1.below hb1, hHeld.out.2.2.2.trans ((hb1).mono hHeld.out.2.2.2.size)⟩
  have HZ6 : Hid (RowAt w5 (g + 3) 48 #[.int .i64 0, .int .i64 0]) := RowAt.below HZ5.out hb1
  clear hb1
  rw [Hx.out, Hb.out]
  refine hK.out _ _ HN (fun hH2 => ?_)
  clear hK K hHeld 
  have hHeld := hH2
  clear hH2
  (try simp only [Act.put, List.getElem_toArray, List.getElem_cons_zero, List.getElem_cons_succ, List.setIfInBounds_toArray, List.set_cons_zero, List.set_cons_succ])
  refine wpAnyH_take (i := 11) (v := ?_) rfl (by kernel_rfl) (by kernel_rfl) (by kernel_rfl) (fun _ _ _ h => h) (Or.inl ⟨by rfl, ?_⟩) (by assumption) ?_
  rotate_left
  · (intro wx hSw; go_simp; (try with_reducible rfl))
  (try simp only [Act.put, List.getElem_toArray, List.getElem_cons_zero, List.getElem_cons_succ, List.setIfInBounds_toArray, List.set_cons_zero, List.set_cons_succ])
  refine wpAnyH_take (i := 12) (v := ?_) rfl (by kernel_rfl) (by kernel_rfl) (by kernel_rfl) (fun _ _ _ h => h) (Or.inl ⟨by rfl, ?_⟩) (by assumption) ?_
  rotate_left
  · (intro wx hSw; go_simp; (try with_reducible rfl))
  (try simp only [Act.put, List.getElem_toArray, List.getElem_cons_zero, List.getElem_cons_succ, List.setIfInBounds_toArray, List.set_cons_zero, List.set_cons_succ])
  refine wpAnyH_ready (rs := [13]) (by kernel_rfl) (by simp) ?_
  refine (AllReadyH.cons rfl (fun K hK => ?_) AllReadyH.nil)
  have c0 : w5.cell? ⟨g + 3, 0, none⟩ = some (.int .i64 0) := HZ6.out.cell 0
  have c1 : w5.cell? ⟨g + 3, 1, none⟩ = some (.int .i64 0) := HZ6.out.cell 1
  have f0 := HZ6.out.free 0
  have f1 := HZ6.out.free 1
  have B9 := hHeld.out.2.2.2
  have HN : Hid (RowAt ((w5.setCell ⟨g + 3, 0, none⟩ (.int .i64 x)).setCell ⟨g + 3, 1, none⟩ (.int .i64 0)) g 24 #[.bool false, .int .i64 dl, .int .u64 s.se, .int .u64 s.mi, .int .u64 s.ho, .int .u64 s.dom, .int .u64 s.mo, .int .u64 s.dow] ∧ RowAt ((w5.setCell ⟨g + 3, 0, none⟩ (.int .i64 x)).setCell ⟨g + 3, 1, none⟩ (.int .i64 0)) (g + 1) 48 #[.int .i64 sec, .int .i64 ns] ∧ RowAt ((w5.setCell ⟨g + 3, 0, none⟩ (.int .i64 x)).setCell ⟨g + 3, 1, none⟩ (.int .i64 0)) (g + 2) 57 #[.slice none 0 0, .slice none 0 0, .slice none 0 0, .slice none 0 0] ∧ Below w.heap.size w ((w5.setCell ⟨g + 3, 0, none⟩ (.int .i64 x)).setCell ⟨g + 3, 1, none⟩ (.int .i64 0))) := ⟨hHeld.out.1.set2 (by omega) _ _, hHeld.out.2.1.set2 (by omega) _ _, hHeld.out.2.2.1.set2 (by omega) _ _, below_set2 B9 (by omega) _ _⟩
  go_simp
  refine hK.out _ _ HN (fun hH2 => ?_)
  clear hK K hHeld
  (try simp only [Act.put, List.getElem_toArray, List.getElem_cons_zero, List.getElem_cons_succ, List.setIfInBounds_toArray, List.set_cons_zero, List.set_cons_succ])
  refine wpAnyH_take (i := 14) (v := ?_) rfl (by kernel_rfl) (by kernel_rfl) (by kernel_rfl) (fun _ _ _ h => h) (Or.inl ⟨by rfl, ?_⟩) (by assumption) ?_
  rotate_left
  · (intro wx hSw; go_simp; (try with_reducible rfl))
  (try simp only [Act.put, List.getElem_toArray, List.getElem_cons_zero, List.getElem_cons_succ, List.setIfInBounds_toArray, List.set_cons_zero, List.set_cons_succ])
  refine wpAnyH_done (by kernel_rfl) ?_ _
  go_wp2_with fail
  refine bodyPost_ret (v := .tuple #[.agg #[.int .i64 x, .int .i64 0], .bool bb]) (by simp [results, Tryz.results20, go_sem, c0, c1, f0, f1]) rfl ⟨r, hr, by rw [Hx.out, Hb.out], HN.out.2.2.2⟩

end Go.Proofs.YtkhggefbkhdimaaGreatDoor
