/- Zones with transitions: their rows; Location.lookup. -/
import Derived.Test.YtpgclepiagfgfaaTsZ
import Derived.Test.YtpgclepiagfgfaaSl
namespace Go.Proofs.Ytpgclepiagfgfaa
open Go.RowKit
set_option linter.unusedVariables false
set_option linter.unusedSimpArgs false

/-- A zone and a transition in memory. -/
def RZn (_ : World) (us : List Value) (z : Int × Bool) : Prop := us = [.string ⟨#[122, 111, 110, 101]⟩, .int .i64 z.1, .bool z.2]
def RTx (_ : World) (us : List Value) (t : Int × Int) : Prop := us = [.int .i64 t.1, .int .u8 t.2, .bool false, .bool false]
theorem RZn.mono : Mono RZn := fun _ _ _ _ _ h => h
theorem RTx.mono : Mono RTx := fun _ _ _ _ _ h => h
theorem RZn.stab {e : TypeId} : Stab e RZn := fun _ _ _ _ _ h => h
theorem RTx.stab {e : TypeId} : Stab e RTx := fun _ _ _ _ _ h => h
abbrev locC (vz vt : Value) : Array Value := #[.bool false, .string ⟨#[122, 111, 110, 101]⟩, vz, vt, .string ⟨#[]⟩, .int .i64 0, .int .i64 0, .pointer none]
/-- A location at u with these zones and transitions. -/
def LocAt (w : World) (u : Nat) (zs : List (Int × Bool)) (ts : List (Int × Int)) : Prop :=
  ∃ vz vt, RowAt w u 124 (locC vz vt) ∧ SlOf RZn 3 w vz zs ∧ SlOf RTx 4 w vt ts
theorem LocAt.below {w w' : World} {u : Nat} {zs : List (Int × Bool)} {ts : List (Int × Int)} (h : LocAt w u zs ts) (hb : Below w.heap.size w w') : LocAt w' u zs ts := by
  obtain ⟨vz, vt, h1, h2, h3⟩ := h
  exact ⟨vz, vt, h1.below hb, h2.below RZn.mono hb, h3.below RTx.mono hb⟩
/-- The offset in use at second sec: that of the last transition at or before it. -/
def OffIs (zs : List (Int × Bool)) (ts : List (Int × Int)) (sec off : Int) : Prop :=
  ∃ (k : Nat) (wn ix : Int) (d : Bool), ts[k]? = some (wn, ix) ∧ wn ≤ sec ∧ (∀ (j : Nat) (t : Int × Int), k < j → ts[j]? = some t → sec < t.1) ∧ zs[ix.toNat]? = some (off, d)
/-- Transitions ascend; each leads to a zone. -/
def TxOk (zs : List (Int × Bool)) (ts : List (Int × Int)) : Prop :=
  ts.length ≤ 5000 ∧ zs.length ≤ 100 ∧ (∀ (i j : Nat) (a b : Int × Int), i ≤ j → ts[i]? = some a → ts[j]? = some b → a.1 ≤ b.1) ∧ ∀ (i : Nat) (a : Int × Int), ts[i]? = some a → 0 ≤ a.2 ∧ a.2 < zs.length

theorem txAt {w : World} {ao : Option Addr} {ts : List (Int × Int)} (HC : ∀ (i : Nat) (x : Int × Int), ts[i]? = some x → ∃ (b off : Nat) (us : List Value), ao = some ⟨b, off, none⟩ ∧ us.length = 4 ∧ (∀ (j : Nat) (u : Value), us[j]? = some u → w.cell? ⟨b, off + i * 4 + j, none⟩ = some u) ∧ RTx w us x) (k : Nat) (x : Int × Int) (h : ts[k]? = some x) :
    ∃ b off, ao = some ⟨b, off, none⟩ ∧ w.cell? ⟨b, off + k * 4, none⟩ = some (.int .i64 x.1) ∧ w.cell? ⟨b, off + k * 4 + 1, none⟩ = some (.int .u8 x.2) := by
  obtain ⟨b, off, us, e, hz, hc, hu⟩ := HC k x h
  unfold RTx at hu
  subst hu
  exact ⟨b, off, e, hc 0 _ rfl, hc 1 _ rfl⟩
theorem znAt {w : World} {ao : Option Addr} {zs : List (Int × Bool)} (HC : ∀ (i : Nat) (x : Int × Bool), zs[i]? = some x → ∃ (b off : Nat) (us : List Value), ao = some ⟨b, off, none⟩ ∧ us.length = 3 ∧ (∀ (j : Nat) (u : Value), us[j]? = some u → w.cell? ⟨b, off + i * 3 + j, none⟩ = some u) ∧ RZn w us x) (k : Nat) (x : Int × Bool) (h : zs[k]? = some x) :
    ∃ b off, ao = some ⟨b, off, none⟩ ∧ w.cell? ⟨b, off + k * 3, none⟩ = some (.string ⟨#[122, 111, 110, 101]⟩) ∧ w.cell? ⟨b, off + k * 3 + 1, none⟩ = some (.int .i64 x.1) ∧ w.cell? ⟨b, off + k * 3 + 2, none⟩ = some (.bool x.2) := by
  obtain ⟨b, off, us, e, hz, hc, hu⟩ := HC k x h
  unfold RZn at hu
  subst hu
  exact ⟨b, off, e, hc 0 _ rfl, hc 1 _ rfl, hc 2 _ rfl⟩
/-- What a look-up hands back: an offset beside other values. -/
def LookPost (off : Int) (w : World) (e : Ending) (w' : World) : Prop := ∃ s st en d, e = .returned (.tuple #[.string s, .int .i64 off, .int .i64 st, .int .i64 en, .bool d]) ∧ Below w.heap.size w w'
set_option maxRecDepth 100000 in
set_option maxHeartbeats 8000000 in
theorem lookupZ_any (zs : List (Int × Bool)) (ts : List (Int × Int)) (u : Nat) (sec off : Int) (hn : 0 < ts.length) (hok : Hid (TxOk zs ts)) (hsec : Hid (∀ t : Int × Int, ts[0]? = some t → t.1 ≤ sec)) (hoff : Hid (∀ o, OffIs zs ts sec o → o = off)) (w : World) (hloc : Hid (LocAt w u zs ts)) :
    Calls Try.prog 91 #[.pointer (some ⟨u, 0, none⟩), .int .i64 sec] w fun e w' => LookPost off w e w' := by
  obtain ⟨vz, vt, h1, h2, h3⟩ := hloc.out
  obtain ⟨az, cz, rfl, hz0⟩ := h2
  obtain ⟨at_, ct, rfl, ht0⟩ := h3
  have HZ := Lib.hid (fun k x h => znAt hz0 k x h)
  have HT := Lib.hid (fun k x h => txAt ht0 k x h)
  obtain ⟨t0, ht00⟩ : ∃ t, ts[0]? = some t := ⟨ts[0]'(by omega), List.getElem?_eq_getElem (by omega)⟩
  obtain ⟨tb, toff, rfl, q0, q1⟩ := HT.out 0 t0 ht00
  have hzp : 0 < zs.length := by have := (hok.out.2.2.2 0 t0 ht00); omega
  obtain ⟨z0, hz00⟩ : ∃ z, zs[0]? = some z := ⟨zs[0]'(by omega), List.getElem?_eq_getElem (by omega)⟩
  obtain ⟨zb, zoff, rfl, y0, y1, y2⟩ := HZ.out 0 z0 hz00
  have c2 : w.cell? ⟨u, 2, none⟩ = some (.slice (some ⟨zb, zoff, none⟩) zs.length cz) := h1.cell 2
  have c3 : w.cell? ⟨u, 3, none⟩ = some (.slice (some ⟨tb, toff, none⟩) ts.length ct) := h1.cell 3
  have c7 : w.cell? ⟨u, 7, none⟩ = some (.pointer none) := h1.cell 7
  have hlz : ((zs.length : Int) == 0) = false := by simp only [beq_eq_false_iff_ne]; omega
  have hlt : ((ts.length : Int) == 0) = false := by simp only [beq_eq_false_iff_ne]; omega
  have htp : (0 : Int) < (ts.length : Int) := by omega
  have hs0 : ¬ (sec < t0.1) := by have := hsec.out t0 ht00; omega
  have hs1 : t0.1 ≤ sec := hsec.out t0 ht00
  have Hok := hok.out
  have hnn : ts.length ≤ 5000 := Hok.1
  have HTok := Lib.hid Hok
  clear hz0 ht0 Hok y0 y1 y2 q1 hloc h1 hok
  simp only [Nat.zero_mul, Nat.add_zero] at q0
  go_enter Try.func91, Try.ntmps91
  go_wp2_with fail
  refine (getSome_any ⟨u, 0, none⟩ _).mono ?_
  rintro e w1 ⟨rfl, hq⟩
  subst hq
  go_wp2_with fail
  go_loopw [7, 12, 13] (fun te tl th wr => ∃ (en : Int) (lo hi : Nat), te = .int .i64 en ∧ tl = .int .i64 lo ∧ th = .int .i64 hi ∧ lo < hi ∧ hi ≤ ts.length ∧ wr = w ∧ Hid (∀ t : Int × Int, ts[lo]? = some t → t.1 ≤ sec) ∧ Hid (∀ (j : Nat) (t : Int × Int), hi ≤ j → ts[j]? = some t → sec < t.1)) (fun _ tl th _ => (intOf th).toNat - (intOf tl).toNat)
  case atStart => exact ⟨_, 0, ts.length, rfl, rfl, rfl, by omega, Nat.le_refl _, rfl, hsec, Lib.hid (fun j t hj ht => by have := (List.getElem?_eq_some_iff.1 ht).1; omega)⟩
  case round =>
    obtain ⟨en, lo, hi, rfl, rfl, rfl, hlh, hhi, rfl, hlo, hup⟩ := hrel
    by_cases hgt : (1 : Int) < (hi : Int) - (lo : Int)
    · obtain ⟨m, hm⟩ : ∃ m : Nat, m = (lo + hi) / 2 := ⟨_, rfl⟩
      have hm1 : lo < m ∧ m < hi := by omega
      obtain ⟨tm, htm⟩ : ∃ t, ts[m]? = some t := ⟨ts[m]'(by omega), List.getElem?_eq_getElem (by omega)⟩
      obtain ⟨b2, o2, e2, p0, p1⟩ := HT.out m tm htm
      obtain ⟨rfl, rfl⟩ : b2 = tb ∧ o2 = toff := by simp at e2; exact ⟨e2.1.symm, e2.2.symm⟩
      have Htm := Lib.hid htm
      have Hm := Lib.hid hm
      have hmi : (((lo : Int) + (hi : Int)) / 2) = ((m : Nat) : Int) := by omega
      have Hmi := Lib.hid hmi
      have hm2 := Lib.hid hm1
      rw [hm] at p0
      clear e2 p1 htm hm hmi hm1
      by_cases hs : sec < tm.1
      · go_wp2_with fail
        go_roundw
        case rel => exact ⟨_, lo, m, rfl, rfl, by rw [Hmi.out], hm2.out.1, by have := hm2.out.2; omega, by trivial, hlo, Lib.hid (fun j t hj ht => by have := HTok.out.2.2.1 m j tm t hj Htm.out ht; omega)⟩
        case measure => simp [intOf]; have := hm2.out; have := Hmi.out; omega
      · go_wp2_with fail
        go_roundw
        case rel => exact ⟨_, m, hi, rfl, by rw [Hmi.out], rfl, hm2.out.2, hhi, by trivial, Lib.hid (fun t ht => by rw [Htm.out] at ht; rw [← Option.some.inj ht]; omega), hup⟩
        case measure => simp [intOf]; have := hm2.out; have := Hmi.out; omega
    · obtain rfl : hi = lo + 1 := by omega
      obtain ⟨⟨wn, ix⟩, hkt⟩ : ∃ t, ts[lo]? = some t := ⟨ts[lo]'(by omega), List.getElem?_eq_getElem (by omega)⟩
      obtain ⟨b2, o2, e2, p0, p1⟩ := HT.out lo (wn, ix) hkt
      obtain ⟨rfl, rfl⟩ : b2 = tb ∧ o2 = toff := by simp at e2; exact ⟨e2.1.symm, e2.2.symm⟩
      have hix := HTok.out.2.2.2 lo (wn, ix) hkt
      obtain ⟨n, rfl⟩ : ∃ n : Nat, ix = n := ⟨ix.toNat, by have := hix.1; simp at this; omega⟩
      have hnl : n < zs.length := by have := hix.2; simp at this; omega
      obtain ⟨⟨o3, d3⟩, hz3⟩ : ∃ z, zs[n]? = some z := ⟨zs[n], List.getElem?_eq_getElem hnl⟩
      obtain ⟨b3, o4, e3, r0, r1, r2⟩ := HZ.out n (o3, d3) hz3
      obtain ⟨rfl, rfl⟩ : b3 = zb ∧ o4 = zoff := by simp at e3; exact ⟨e3.1.symm, e3.2.symm⟩
      have hof : o3 = off := hoff.out o3 ⟨lo, wn, n, d3, hkt, hlo.out _ hkt, fun j t hj ht => hup.out j t hj ht, by simpa using hz3⟩
      subst hof
      have hlo3 : lo < ts.length := by omega
      clear e2 e3 hix hlo hup hkt hz3 HT HZ
      simp only [] at p0 p1 r0 r1 r2
      go_wp2_with fail
      have HS35 : Hid (wr.drew.cell? ⟨u, 2, none⟩ = some (.slice (some ⟨b3, o4, none⟩) zs.length cz) ∧ wr.drew.cell? ⟨b2, o2 + lo * 4 + 1, none⟩ = some (.int .u8 n)) := Lib.hid ⟨c2, p1⟩
      refine wp_region_held_drew (S := fun w' => Hid (w'.cell? ⟨u, 2, none⟩ = some (.slice (some ⟨b3, o4, none⟩) zs.length cz) ∧ w'.cell? ⟨b2, o2 + lo * 4 + 1, none⟩ = some (.int .u8 n))) (by kernel_rfl) (HS35) (fun hHeld => ?_)
      (try simp only [Act.put, List.getElem_toArray, List.getElem_cons_zero, List.getElem_cons_succ, List.setIfInBounds_toArray, List.set_cons_zero, List.set_cons_succ])
      refine wpAnyH_take (i := 0) (v := ?_) rfl (by kernel_rfl) (by kernel_rfl) (by kernel_rfl) (fun _ _ _ h => h) (Or.inl ⟨by rfl, ?_⟩) (by assumption) ?_
      rotate_left
      · (intro wx hSw; go_simp; (try with_reducible rfl))
      (try simp only [Act.put, List.getElem_toArray, List.getElem_cons_zero, List.getElem_cons_succ, List.setIfInBounds_toArray, List.set_cons_zero, List.set_cons_succ])
      refine wpAnyH_take (i := 1) (v := ?_) rfl (by kernel_rfl) (by kernel_rfl) (by kernel_rfl) (fun _ _ _ h => h) (Or.inl ⟨by rfl, ?_⟩) (by assumption) ?_
      rotate_left
      · (intro wx hSw; go_simp; (try with_reducible rfl))
      (try simp only [Act.put, List.getElem_toArray, List.getElem_cons_zero, List.getElem_cons_succ, List.setIfInBounds_toArray, List.set_cons_zero, List.set_cons_succ])
      refine wpAnyH_take (i := 2) (v := ?_) rfl (by kernel_rfl) (by kernel_rfl) (by kernel_rfl) (fun _ _ _ h => h) (Or.inl ⟨by rfl, ?_⟩) (by assumption) ?_
      rotate_left
      · (intro wx hSw; go_simp; (try with_reducible rfl))
      (try simp only [Act.put, List.getElem_toArray, List.getElem_cons_zero, List.getElem_cons_succ, List.setIfInBounds_toArray, List.set_cons_zero, List.set_cons_succ])
      refine wpAnyH_take (i := 3) (v := ?_) rfl (by kernel_rfl) (by kernel_rfl) (by kernel_rfl) (fun _ _ _ h => h) (Or.inl ⟨by rfl, ?_⟩) (by assumption) ?_
      rotate_left
      · (intro wx hSw; have k0 := hSw.out.1; go_simp; (try with_reducible rfl))
      (try simp only [Act.put, List.getElem_toArray, List.getElem_cons_zero, List.getElem_cons_succ, List.setIfInBounds_toArray, List.set_cons_zero, List.set_cons_succ])
      refine wpAnyH_take (i := 4) (v := ?_) rfl (by kernel_rfl) (by kernel_rfl) (by kernel_rfl) (fun _ _ _ h => h) (Or.inl ⟨by rfl, ?_⟩) (by assumption) ?_
      rotate_left
      · (intro wx hSw; go_simp; (try with_reducible rfl))
      (try simp only [Act.put, List.getElem_toArray, List.getElem_cons_zero, List.getElem_cons_succ, List.setIfInBounds_toArray, List.set_cons_zero, List.set_cons_succ])
      refine wpAnyH_take (i := 5) (v := ?_) rfl (by kernel_rfl) (by kernel_rfl) (by kernel_rfl) (fun _ _ _ h => h) (Or.inl ⟨by rfl, ?_⟩) (by assumption) ?_
      rotate_left
      · (intro wx hSw; go_simp; (try with_reducible rfl))
      (try simp only [Act.put, List.getElem_toArray, List.getElem_cons_zero, List.getElem_cons_succ, List.setIfInBounds_toArray, List.set_cons_zero, List.set_cons_succ])
      refine wpAnyH_take (i := 6) (v := ?_) rfl (by kernel_rfl) (by kernel_rfl) (by kernel_rfl) (fun _ _ _ h => h) (Or.inl ⟨by rfl, ?_⟩) (by assumption) ?_
      rotate_left
      · (intro wx hSw; go_simp; (try with_reducible rfl))
      (try simp only [Act.put, List.getElem_toArray, List.getElem_cons_zero, List.getElem_cons_succ, List.setIfInBounds_toArray, List.set_cons_zero, List.set_cons_succ])
      refine wpAnyH_take (i := 7) (v := ?_) rfl (by kernel_rfl) (by kernel_rfl) (by kernel_rfl) (fun _ _ _ h => h) (Or.inl ⟨by rfl, ?_⟩) (by assumption) ?_
      rotate_left
      · (intro wx hSw; go_simp; (try with_reducible rfl))
      (try simp only [Act.put, List.getElem_toArray, List.getElem_cons_zero, List.getElem_cons_succ, List.setIfInBounds_toArray, List.set_cons_zero, List.set_cons_succ])
      refine wpAnyH_take (i := 8) (v := ?_) rfl (by kernel_rfl) (by kernel_rfl) (by kernel_rfl) (fun _ _ _ h => h) (Or.inl ⟨by rfl, ?_⟩) (by assumption) ?_
      rotate_left
      · (intro wx hSw; have k0 := hSw.out.2; go_simp; (try with_reducible rfl))
      (try simp only [Act.put, List.getElem_toArray, List.getElem_cons_zero, List.getElem_cons_succ, List.setIfInBounds_toArray, List.set_cons_zero, List.set_cons_succ])
      refine wpAnyH_take (i := 9) (v := ?_) rfl (by kernel_rfl) (by kernel_rfl) (by kernel_rfl) (fun _ _ _ h => h) (Or.inl ⟨by rfl, ?_⟩) (by assumption) ?_
      rotate_left
      · (intro wx hSw; go_simp; (try with_reducible rfl))
      (try simp only [Act.put, List.getElem_toArray, List.getElem_cons_zero, List.getElem_cons_succ, List.setIfInBounds_toArray, List.set_cons_zero, List.set_cons_succ])
      refine wpAnyH_take (i := 10) (v := ?_) rfl (by kernel_rfl) (by kernel_rfl) (by kernel_rfl) (fun _ _ _ h => h) (Or.inl ⟨by rfl, ?_⟩) (by assumption) ?_
      rotate_left
      · (intro wx hSw; go_simp; (try with_reducible rfl))
      (try simp only [Act.put, List.getElem_toArray, List.getElem_cons_zero, List.getElem_cons_succ, List.setIfInBounds_toArray, List.set_cons_zero, List.set_cons_succ])
      refine wpAnyH_done (by kernel_rfl) ?_ _
      have hbd : Below wr.heap.size wr wr.drew := (Below.refl _ _).drew
      have p0 := cellBS hbd p0
      have r0 := cellBS hbd r0
      have r1 := cellBS hbd r1
      have r2 := cellBS hbd r2
      generalize wr.drew = Wd at hbd p0 r0 r1 r2 ⊢
      clear c2 c3 c7 p1 hHeld
      go_wp2_with fail
      refine bodyPost_ret (v := .tuple #[.string ⟨#[122, 111, 110, 101]⟩, .int .i64 o3, .int .i64 wn, .int .i64 en, .bool d3]) (by simp [results, Try.results91, go_sem]) rfl ⟨_, _, _, _, rfl, hbd⟩

end Go.Proofs.Ytpgclepiagfgfaa
