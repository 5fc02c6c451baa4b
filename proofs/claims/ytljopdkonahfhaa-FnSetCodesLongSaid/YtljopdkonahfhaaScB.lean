/- strings.HasPrefix, digestset.checkShortMatch at a short code of another length, NewSet. -/
import Derived.Test.YtljopdkonahfhaaScA
import Derived.WalkSmall
import Derived.Maps.AppendAt
namespace Go.Proofs.Ytljopdkonahfhaa
open Go.RowKit
set_option linter.unusedVariables false
set_option linter.unusedSimpArgs false

def preB (s : ByteArray) (n : Nat) (p : ByteArray) : Bool := (s.extract 0 n).toList == p.toList
set_option maxRecDepth 100000 in
set_option maxHeartbeats 4000000 in
theorem slPrefix_any (s p : ByteArray) (n : Nat) (hn : p.size = n) (h : n ≤ s.size) (w : World) :
    Calls Try.prog 33 #[.string s, .string p] w fun e w' => e = .returned (.bool (preB s n p)) ∧ w = w' := by
  subst hn
  unfold preB
  have hle : (p.size : Int) ≤ (s.size : Int) := by omega
  go_enter Try.func33, Try.ntmps33
  go_wp2_with fail
  go_ret
  exact ⟨rfl, rfl⟩
set_option maxHeartbeats 4000000 in
theorem prefix_any (s p : ByteArray) (n : Nat) (hn : p.size = n) (h : n ≤ s.size) (w : World) :
    Calls Try.prog 29 #[.string s, .string p] w fun e w' => e = .returned (.bool (preB s n p)) ∧ w = w' := by
  go_enter Try.func29, Try.ntmps29
  go_wp2_with fail
  refine (slPrefix_any s p n hn h _).mono ?_
  rintro e w1 ⟨rfl, rfl⟩
  go_wp2_with fail
  go_ret
  exact ⟨rfl, rfl⟩
set_option maxRecDepth 100000 in
set_option maxHeartbeats 4000000 in
theorem short_any (a s p : ByteArray) (n : Nat) (hn : p.size = n) (h : n < s.size) (w : World) :
    Calls Try.prog 19 #[.string a, .string s, .string ⟨#[]⟩, .string p] w fun e w' => e = .returned (.bool (preB s n p)) ∧ w = w' := by
  have hne : ((s.size : Int) == (p.size : Int)) = false := by simp; omega
  go_enter Try.func19, Try.ntmps19
  go_wp2_with fail
  refine (prefix_any s p n hn (by omega) _).mono ?_
  rintro e w1 ⟨rfl, rfl⟩
  obtain ⟨b, hb⟩ : ∃ b, preB s n p = b := ⟨_, rfl⟩
  rw [hb]
  have e0 : ((0 : Int) < ((⟨#[]⟩ : ByteArray).size : Int)) = False := by simp; rfl
  cases b with
  | true =>
    go_wp2_with fail
    go_ret
    exact ⟨ret_bool hb.symm, rfl⟩
  | false =>
    go_wp2_with fail
    go_ret
    exact ⟨ret_bool hb.symm, rfl⟩

def RowAt (w : World) (g : Nat) (t : TypeId) (cs : Array Value) : Prop := w.heap[g]? = some (.cells cs t (0, 0))
theorem RowAt.lt {w : World} {g : Nat} {t : TypeId} {cs : Array Value} (h : RowAt w g t cs) : g < w.heap.size := (Array.getElem?_eq_some_iff.1 h).1
theorem RowAt.cell {w : World} {g : Nat} {t : TypeId} {cs : Array Value} (h : RowAt w g t cs) (i : Nat) : w.cell? ⟨g, i, none⟩ = cs[i]? := cell_of_row w g i cs _ (0, 0) h
theorem RowAt.free {w : World} {g : Nat} {t : TypeId} {cs : Array Value} (h : RowAt w g t cs) (i : Nat) : w.frozen? ⟨g, i, none⟩ = false := by simp [World.frozen?, show w.heap[g]? = _ from h]
theorem RowAt.below {w w' : World} {g : Nat} {t : TypeId} {cs : Array Value} (h : RowAt w g t cs) (hb : Below w.heap.size w w') : RowAt w' g t cs := (hb.block g h.lt).trans h
theorem RowAt.exc {w w' : World} {g : Nat} {t e : TypeId} {cs : Array Value} (h : RowAt w g t cs) (hx : Exc e w w') (hne : t ≠ e) : RowAt w' g t cs := hx g _ _ _ h hne
theorem RowAt.set {w : World} {g : Nat} {t : TypeId} {cs : Array Value} (h : RowAt w g t cs) (i : Nat) (v : Value) : RowAt (w.setCell ⟨g, i, none⟩ v) g t (cs.setIfInBounds i v) := heap_setCell_same _ g i _ _ _ h
theorem RowAt.al {W : World} {g : Nat} {t : TypeId} {cs : Array Value} (h : RowAt W g t cs) (o : Obj) : RowAt (W.alloc o) g t cs := (Below.heap_alloc W o g h.lt).trans h
theorem rowAt_last (W : World) (t : TypeId) (cs : Array Value) (n : Nat) (hn : n = W.heap.size) : RowAt (W.alloc (.cells cs t)) n t cs := by subst hn; exact heap_alloc_new W _

abbrev TSet : TypeId := 60
abbrev TEnt : TypeId := 63
abbrev TPE : TypeId := 64
def dgOf (a x : ByteArray) : ByteArray := a ++ ⟨#[58]⟩ ++ x
abbrev entC (a x : ByteArray) : Array Value := #[.string a, .string x, .string (dgOf a x)]
/-- One cell that leads to an entry. -/
def REnt (a : ByteArray) (w : World) (us : List Value) (x : ByteArray) : Prop := ∃ g, us = [.pointer (some ⟨g, 0, none⟩)] ∧ RowAt w g TEnt (entC a x)
theorem REnt.stab {a : ByteArray} {e : TypeId} (he : TEnt ≠ e) : Stab e (REnt a) := fun w w' us t hx ⟨g, e', h⟩ => ⟨g, e', h.exc hx he⟩
abbrev setC (v : Value) (rc : Int) : Array Value := #[.int .i32 0, .int .u32 0, .int .u32 0, .int .u32 0, .int .i32 rc, .int .i32 0, v]
abbrev SetAt (w : World) (g : Nat) (v : Value) (rc : Int) : Prop := RowAt w g TSet (setC v rc)

set_option maxHeartbeats 4000000 in
theorem newSet_any (w : World) : Calls Try.prog 20 #[] w fun e w' => e = .returned (.pointer (some ⟨w.heap.size + 1, 0, none⟩)) ∧ w' = (w.alloc (.cells #[] TPE)).alloc (.cells (setC (.slice (some ⟨w.heap.size, 0, none⟩) 0 0) 0) TSet) := by
  go_enter Try.func20, Try.ntmps20
  go_wp2_with fail
  go_ret
  exact ⟨rfl, rfl⟩

theorem infoPE : (Try.prog.info? TPE).map (fun i => (i.zero, i.size, i.bytes)) = some (some (.pointer none), 1, 8) := by kernel_rfl

set_option maxRecDepth 100000 in
set_option maxHeartbeats 8000000 in
theorem zzSet_any (a : ByteArray) (l : List ByteArray) (v : Value) (hl : l.length ≤ 1000) (ha : a.size ≤ 1000) (hxl : Hid (∀ x ∈ l, x.size ≤ 1000)) (w : World) (hs : Hid (SlOf RStr 1 w v l)) :
    Calls Try.prog 13 #[.string a, v] w fun e w' => ∃ G u, e = .returned (.pointer (some ⟨G, 0, none⟩)) ∧ w.heap.size ≤ G ∧ SetAt w' G u 0 ∧ OwnOf (REnt a) 1 w.heap.size TPE w' u l ∧ Below w.heap.size w w' := by
  obtain ⟨ao, cap, rfl, hc⟩ := hs.out
  have HC := Lib.hid (fun k x h => strAt hc k x h)
  clear hc hs
  obtain ⟨i0, hi, hz0, hz1, hz2⟩ := info_parts infoPE
  go_enter Try.func13, Try.ntmps13
  go_wp2_with fail
  refine (newSet_any _).mono ?_
  rintro e w1 ⟨rfl, hw1⟩
  have HS1 : Hid (SetAt w1 (w.heap.size + 1) (.slice (some ⟨w.heap.size, 0, none⟩) 0 0) 0) := Lib.hid (by rw [hw1]; exact rowAt_last _ _ _ _ (by simp))
  have HO1 : Hid (OwnOf (REnt a) 1 w.heap.size TPE w1 (.slice (some ⟨w.heap.size, 0, none⟩) 0 0) (l.take 0)) := Lib.hid (by
    refine ⟨[], rfl, fun _ h => by simp at h, ⟨by simp, .inr ⟨w.heap.size, 0, #[], rfl, Nat.le_refl _, ?_, Nat.le_refl _, by unfold maxLen; omega, rfl, rfl⟩⟩, fun _ _ _ h => by simp at h⟩
    rw [hw1]
    exact (rowAt_last w TPE #[] _ rfl).al _)
  have HB1 : Hid (Below w.heap.size w w1) := Lib.hid (by rw [hw1]; exact ((Below.refl _ _).alloc (Nat.le_refl _) _).alloc (by simp) _)
  clear hw1
  go_wp2_with fail
  go_loopw [11] (fun i wr => ∃ (k : Nat) (u : Value), k ≤ l.length ∧ i = .int .i64 k ∧ SetAt wr (w.heap.size + 1) u 0 ∧ OwnOf (REnt a) 1 w.heap.size TPE wr u (l.take k) ∧ Below w.heap.size w wr) (fun i _ => l.length - (intOf i).toNat)
  case atStart => exact ⟨0, _, Nat.zero_le _, rfl, HS1.out, HO1.out, HB1.out⟩
  case round =>
    clear HS1 HO1 HB1
    obtain ⟨k, u, hk, rfl, hS, hO, hb⟩ := hrel
    by_cases hkL : k < l.length
    · obtain ⟨x, hlx⟩ : ∃ x, l[k]? = some x := ⟨l[k], List.getElem?_eq_getElem hkL⟩
      obtain ⟨ab, aoff, rfl, k00⟩ := HC.out k x hlx
      have k0 := cellBS hb k00
      have hxs := hxl.out x (List.mem_of_getElem? hlx)
      have Hlx := Lib.hid hlx
      have c6 : wr.cell? ⟨w.heap.size + 1, 6, none⟩ = some u := hS.cell 6
      have f6 : wr.frozen? ⟨w.heap.size + 1, 6, none⟩ = false := hS.free 6
      have HS := Lib.hid hS
      have HO := Lib.hid hO
      clear hlx k00 hS hO
      go_wp2_with (at_builtin; refine stop_here ?_)
      unfold Stop
      have b1 : Below wr.heap.size wr (wr.alloc (.cells (entC a x) TEnt)) := (Below.refl _ _).alloc (Nat.le_refl _) _
      have b2 : Below wr.heap.size wr ((wr.alloc (.cells (entC a x) TEnt)).alloc (.cells #[.pointer (some ⟨wr.heap.size, 0, none⟩)] TPE)) := b1.alloc b1.size _
      have hE := RowAt.al (rowAt_last wr TEnt (entC a x) _ rfl) (.cells #[.pointer (some ⟨wr.heap.size, 0, none⟩)] TPE)
      have hS2 := HS.out.below b2
      obtain ⟨cs, hcl, hcz, hown2, hR⟩ := HO.out.below (REnt.stab (a := a) (e := 0) (by decide)).mono b2
      rw [List.length_take_of_le hk] at hown2 hcl
      refine wpList_append_own _ rfl _ _ 58 rfl _ TPE i0 (.pointer none) 1 8 Try.underlying58 hi hz0 hz1 hz2 rfl (by decide) _ _ _ rfl hown2 ⟨wr.heap.size + 1, 0, none⟩ 1 1 [.pointer (some ⟨wr.heap.size, 0, none⟩)] rfl rfl ?_ ?_ ?_ ?_ ?_ ?_
      · have := cells_new (wr.alloc (.cells (entC a x) TEnt)) #[.pointer (some ⟨wr.heap.size, 0, none⟩)] TPE
        rw [World.size_alloc] at this
        exact this
      · intro u hu; simp at hu; subst hu; rfl
      · unfold maxLen; omega
      · omega
      · exact Nat.le_trans hb.size b2.size
      intro v' w2 hown3 hgrow _
      have hp := OwnOf.push (REnt.stab (a := a) (e := TPE) (by decide)) (x := x) (List.length_take_of_le hk) hcl hcz hown2 hR hgrow hown3 rfl ⟨_, rfl, hE⟩
      rw [← take_snoc l k _ Hlx.out] at hp
      obtain ⟨ao6, cap6, hv6⟩ := hp.sl.len
      have hv7 : v' = .slice ao6 (k + 1) cap6 := by rw [hv6, List.length_take_of_le (by omega)]
      clear hv6
      subst hv7
      have hS3 := hS2.exc (Exc.ofGrown hown2 hgrow) (by decide)
      have hb3 := Below.grown (hb.trans (b2.mono hb.size)) hgrow (by have := hb.size; have := b2.size; omega) (fun k hk => (hown2.lt k hk).1)
      have c6' : w2.cell? ⟨w.heap.size + 1, 6, none⟩ = some u := hS3.cell 6
      have f6' : w2.frozen? ⟨w.heap.size + 1, 6, none⟩ = false := hS3.free 6
      have hp4 := hp.exc (e' := TSet) (by decide) (REnt.stab (by decide)) (Exc.ofSet hS3 (i := 6) (.slice ao6 (k + 1) cap6))
      have hS4 : SetAt (w2.setCell ⟨w.heap.size + 1, 6, none⟩ (.slice ao6 (k + 1) cap6)) (w.heap.size + 1) (.slice ao6 (k + 1) cap6) 0 := hS3.set 6 _
      have hb4 : Below w.heap.size w (w2.setCell ⟨w.heap.size + 1, 6, none⟩ (.slice ao6 (k + 1) cap6)) := hb3.setCell (p := ⟨w.heap.size + 1, 6, none⟩) (by simp) _
      have HP4 := Lib.hid hp4
      have HS4 := Lib.hid hS4
      clear hgrow hown3 hown2 hR hcz hcl hp hp4 hS4 hS3 hS2 hE b1 b2 HS HO c6 f6 hb3 k0
      go_wp2_with fail
      go_roundw
      case rel => exact ⟨k + 1, _, by omega, by go_num, HS4.out, HP4.out, hb4⟩
      case measure => simp [intOf]; omega
    · obtain rfl : k = l.length := by omega
      rw [List.take_length] at hO
      go_wp2_with fail
      go_ret
      exact ⟨_, u, rfl, by omega, hS, hO, hb⟩
end Go.Proofs.Ytljopdkonahfhaa
