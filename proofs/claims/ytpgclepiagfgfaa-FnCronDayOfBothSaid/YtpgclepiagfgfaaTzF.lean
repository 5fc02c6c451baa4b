/- gotime.ZZZone: a location of offsets and transitions. -/
import Derived.Test.YtpgclepiagfgfaaTzE
import Derived.WalkSmall
import Derived.Maps.AppendAt
namespace Go.Proofs.Ytpgclepiagfgfaa
open Go.RowKit
set_option linter.unusedVariables false
set_option linter.unusedSimpArgs false

theorem wp_append_own {P : Program} {o : Oper} {a : Act} {w : World} {K : Act → World → Prop} {Q : Exit → Act → World → Prop} (s x : Operand) (t : TypeId)
    (ho : o.op = .call { callee := .builtin .append, args := #[s, x], argTypes := #[t, t] })
    (base : Nat) (e : TypeId) (i : TypeInfo) (z : Value) (size bytes : Nat) (ht : P.underlying t = some (.slice e)) (hi : P.info? e = some i) (hz : i.zero = some z)
    (hsize : i.size = size) (hby : i.bytes = bytes) (hzs : z.cells.size = size) (hsz : 0 < size)
    (v : Value) (n : Nat) (xs : List Value) (hs : a.eval s = v) (hown : w.ownsRow base e size v n xs)
    (ad : Addr) (m c : Nat) (news : List Value) (hx : a.eval x = .slice (some ad) m c) (hl : news.length = m * size) (hnews : ∀ j u, news[j]? = some u → w.cell? (ad.add j) = some u) (h1 : ∀ u ∈ news, u.oneCell' = true)
    (h63 : n + m ≤ maxLen) (hbytes : (n + m) * bytes ≤ 140737488355328) (hbase : base ≤ w.heap.size)
    (h : ∀ v' w', w'.ownsRow base e size v' (n + m) (xs ++ news) → w.grownBy w' v.ownBlock → K (a.put o.dst v') w') : o.wp P a w K Q := by
  obtain ⟨v', w', hr, h2, h3, h4, h5⟩ := run_append_own_at (P := P) w base t o.type e i z size bytes ht hi hz hsize hby hzs hsz v n xs hown ad m c news hl hnews h1 h63 hbytes hbase
  unfold Oper.wp execOp
  simp only [ho, resolve, invoke, builtin, Sem.run_bind, Sem.run_pure, Result.andThen_ok, List.map_toArray, List.map_cons, List.map_nil, hs, hx, hr]
  exact h v' w' h2 h3

/-- One cell: an int, a bool. -/
def RIn (_ : World) (us : List Value) (x : Int) : Prop := us = [.int .i64 x]
def RBo (_ : World) (us : List Value) (x : Bool) : Prop := us = [.bool x]
theorem RIn.mono : Mono RIn := fun _ _ _ _ _ h => h
theorem RBo.mono : Mono RBo := fun _ _ _ _ _ h => h
theorem inAt {w : World} {ao : Option Addr} {l : List Int} (HC : ∀ (i : Nat) (x : Int), l[i]? = some x → ∃ (b off : Nat) (us : List Value), ao = some ⟨b, off, none⟩ ∧ us.length = 1 ∧ (∀ (j : Nat) (u : Value), us[j]? = some u → w.cell? ⟨b, off + i * 1 + j, none⟩ = some u) ∧ RIn w us x) (k : Nat) (x : Int) (h : l[k]? = some x) :
    ∃ b off, ao = some ⟨b, off, none⟩ ∧ w.cell? ⟨b, off + k, none⟩ = some (.int .i64 x) := by
  obtain ⟨b, off, us, e, hz, hc, hu⟩ := HC k x h
  unfold RIn at hu
  subst hu
  have := hc 0 _ rfl
  simp only [Nat.mul_one, Nat.add_zero] at this
  exact ⟨b, off, e, this⟩
theorem boAt {w : World} {ao : Option Addr} {l : List Bool} (HC : ∀ (i : Nat) (x : Bool), l[i]? = some x → ∃ (b off : Nat) (us : List Value), ao = some ⟨b, off, none⟩ ∧ us.length = 1 ∧ (∀ (j : Nat) (u : Value), us[j]? = some u → w.cell? ⟨b, off + i * 1 + j, none⟩ = some u) ∧ RBo w us x) (k : Nat) (x : Bool) (h : l[k]? = some x) :
    ∃ b off, ao = some ⟨b, off, none⟩ ∧ w.cell? ⟨b, off + k, none⟩ = some (.bool x) := by
  obtain ⟨b, off, us, e, hz, hc, hu⟩ := HC k x h
  unfold RBo at hu
  subst hu
  have := hc 0 _ rfl
  simp only [Nat.mul_one, Nat.add_zero] at this
  exact ⟨b, off, e, this⟩
theorem infoZn : (Try.prog.info? 126).map (fun i => (i.zero, i.size, i.bytes)) = some (some (.agg #[.string ByteArray.empty, .int .i64 0, .bool false]), 3, 32) := by kernel_rfl
theorem infoTx : (Try.prog.info? 128).map (fun i => (i.zero, i.size, i.bytes)) = some (some (.agg #[.int .i64 0, .int .u8 0, .bool false, .bool false]), 4, 16) := by kernel_rfl
theorem RowAt.excT {w w' : World} {g : Nat} {t e : TypeId} {cs : Array Value} (h : RowAt w g t cs) (hx : Exc e w w') (hne : t ≠ e) : RowAt w' g t cs := hx g _ _ _ h hne
set_option maxRecDepth 100000 in
set_option maxHeartbeats 8000000 in
theorem zzZone_any (offs : List Int) (dsts : List Bool) (whens idxs : List Int) (vo vd vw vi : Value) (hl1 : dsts.length = offs.length) (hl2 : idxs.length = whens.length) (hl3 : offs.length ≤ 100) (hl4 : whens.length ≤ 5000) (hix : Hid (∀ x ∈ idxs, 0 ≤ x ∧ x < 256)) (w : World) (hvo : Hid (SlOf RIn 1 w vo offs)) (hvd : Hid (SlOf RBo 1 w vd dsts)) (hvw : Hid (SlOf RIn 1 w vw whens)) (hvi : Hid (SlOf RIn 1 w vi idxs)) :
    Calls Try.prog 55 #[vo, vd, vw, vi] w fun e w' => e = .returned (.pointer (some ⟨w.heap.size, 0, none⟩)) ∧ LocAt w' w.heap.size (offs.zip dsts) (whens.zip idxs) ∧ Below w.heap.size w w' := by
  obtain ⟨ao, co, rfl, ho0⟩ := hvo.out
  obtain ⟨ad, cd, rfl, hd0⟩ := hvd.out
  obtain ⟨aw, cw, rfl, hw0⟩ := hvw.out
  obtain ⟨ai, ci, rfl, hi0⟩ := hvi.out
  have HOF := Lib.hid (fun k x h => inAt ho0 k x h)
  have HDS := Lib.hid (fun k x h => boAt hd0 k x h)
  have HWN := Lib.hid (fun k x h => inAt hw0 k x h)
  have HIX := Lib.hid (fun k x h => inAt hi0 k x h)
  clear ho0 hd0 hw0 hi0 hvo hvd hvw hvi
  obtain ⟨i0, hi, hz0, hz1, hz2⟩ := info_parts infoZn
  obtain ⟨j0, gi, gz0, gz1, gz2⟩ := info_parts infoTx
  go_enter Try.func55, Try.ntmps55
  go_wp2_with fail
  go_loopw [18] (fun tk wr => ∃ (k : Nat) (vz : Value), k ≤ offs.length ∧ tk = .int .i64 k ∧ RowAt wr w.heap.size 124 (locC vz (.slice none 0 0)) ∧ OwnOf RZn 3 w.heap.size 126 wr vz ((offs.zip dsts).take k) ∧ Below w.heap.size w wr) (fun tk _ => offs.length - (intOf tk).toNat)
  case atStart => exact ⟨0, _, Nat.zero_le _, rfl, rowAt_last _ _ _ _ rfl, OwnOf.nil _ _ _ _ _, (Below.refl _ _).alloc (Nat.le_refl _) _⟩
  case round =>
    obtain ⟨k, vz, hk, rfl, hR, hO, hb⟩ := hrel
    by_cases hkL : k < offs.length
    · obtain ⟨o1, ho1⟩ : ∃ x, offs[k]? = some x := ⟨offs[k], List.getElem?_eq_getElem hkL⟩
      obtain ⟨d1, hd1⟩ : ∃ x, dsts[k]? = some x := ⟨dsts[k]'(by omega), List.getElem?_eq_getElem (by omega)⟩
      obtain ⟨ob, ooff, rfl, ko0⟩ := HOF.out k o1 ho1
      obtain ⟨db, doff, rfl, kd0⟩ := HDS.out k d1 hd1
      have ko := cellBS hb ko0
      have kd := cellBS hb kd0
      have kd00 := Lib.hid kd0
      have HO := Lib.hid hO
      have hzk : (offs.zip dsts)[k]? = some (o1, d1) := by simp [List.getElem?_zip_eq_some, ho1, hd1]
      have Hzk := Lib.hid hzk
      have hkd : k < dsts.length := by omega
      clear ko0 kd0 hO ho1 hd1 hzk
      go_wp2_with fail
      have HS5 : Hid (RowAt wr.drew w.heap.size 124 (locC vz (.slice none 0 0)) ∧ wr.drew.cell? ⟨db, doff + k, none⟩ = some (.bool d1)) := Lib.hid ⟨hR, kd⟩
      refine wp_region_to (S := fun w' => Hid (RowAt w' w.heap.size 124 (locC vz (.slice none 0 0)) ∧ w'.cell? ⟨db, doff + k, none⟩ = some (.bool d1))) 15 (by kernel_rfl) (HS5) (fun hHeld => ?_)
      (try simp only [Act.put, List.getElem_toArray, List.getElem_cons_zero, List.getElem_cons_succ, List.setIfInBounds_toArray, List.set_cons_zero, List.set_cons_succ])
      have HOd := Lib.hid (HO.out.below (RZn.stab (e := 0)).mono ((Below.refl _ _).drew))
      have hbd := hb.drew
      generalize wr.drew = Wd at HOd hbd hHeld ⊢
      refine wpTo_take (i := 0) (v := ?_) rfl (by kernel_rfl) (by kernel_rfl) (by kernel_rfl) (by kernel_rfl) (fun _ _ _ h => h) (Or.inl ⟨by rfl, ?_⟩) (by assumption) ?_
      rotate_left
      · (intro wx hSw; go_simp; (try with_reducible rfl))
      (try simp only [Act.put, List.getElem_toArray, List.getElem_cons_zero, List.getElem_cons_succ, List.setIfInBounds_toArray, List.set_cons_zero, List.set_cons_succ])
      refine wpTo_take (i := 1) (v := ?_) rfl (by kernel_rfl) (by kernel_rfl) (by kernel_rfl) (by kernel_rfl) (fun _ _ _ h => h) (Or.inl ⟨by rfl, ?_⟩) (by assumption) ?_
      rotate_left
      · (intro wx hSw; go_simp; (try with_reducible rfl))
      (try simp only [Act.put, List.getElem_toArray, List.getElem_cons_zero, List.getElem_cons_succ, List.setIfInBounds_toArray, List.set_cons_zero, List.set_cons_succ])
      refine wpTo_take (i := 2) (v := ?_) rfl (by kernel_rfl) (by kernel_rfl) (by kernel_rfl) (by kernel_rfl) (fun _ _ _ h => h) (Or.inl ⟨by rfl, ?_⟩) (by assumption) ?_
      rotate_left
      · (intro wx hSw; go_simp; (try with_reducible rfl))
      (try simp only [Act.put, List.getElem_toArray, List.getElem_cons_zero, List.getElem_cons_succ, List.setIfInBounds_toArray, List.set_cons_zero, List.set_cons_succ])
      refine wpTo_take (i := 3) (v := ?_) rfl (by kernel_rfl) (by kernel_rfl) (by kernel_rfl) (by kernel_rfl) (fun _ _ _ h => h) (Or.inl ⟨by rfl, ?_⟩) (by assumption) ?_
      rotate_left
      · (intro wx hSw; go_simp; (try with_reducible rfl))
      (try simp only [Act.put, List.getElem_toArray, List.getElem_cons_zero, List.getElem_cons_succ, List.setIfInBounds_toArray, List.set_cons_zero, List.set_cons_succ])
      refine wpTo_take (i := 4) (v := ?_) rfl (by kernel_rfl) (by kernel_rfl) (by kernel_rfl) (by kernel_rfl) (fun _ _ _ h => h) (Or.inl ⟨by rfl, ?_⟩) (by assumption) ?_
      rotate_left
      · (intro wx hSw; have k0 : wx.cell? ⟨w.heap.size, 2, none⟩ = some vz := hSw.out.1.cell 2; go_simp; (try with_reducible rfl))
      (try simp only [Act.put, List.getElem_toArray, List.getElem_cons_zero, List.getElem_cons_succ, List.setIfInBounds_toArray, List.set_cons_zero, List.set_cons_succ])
      refine wpTo_take (i := 5) (v := ?_) rfl (by kernel_rfl) (by kernel_rfl) (by kernel_rfl) (by kernel_rfl) (fun _ _ _ h => h) (Or.inl ⟨by rfl, ?_⟩) (by assumption) ?_
      rotate_left
      · (intro wx hSw; go_simp; (try with_reducible rfl))
      (try simp only [Act.put, List.getElem_toArray, List.getElem_cons_zero, List.getElem_cons_succ, List.setIfInBounds_toArray, List.set_cons_zero, List.set_cons_succ])
      refine wpTo_take (i := 6) (v := ?_) rfl (by kernel_rfl) (by kernel_rfl) (by kernel_rfl) (by kernel_rfl) (fun _ _ _ h => h) (Or.inl ⟨by rfl, ?_⟩) (by assumption) ?_
      rotate_left
      · (intro wx hSw; go_simp; (try with_reducible rfl))
      (try simp only [Act.put, List.getElem_toArray, List.getElem_cons_zero, List.getElem_cons_succ, List.setIfInBounds_toArray, List.set_cons_zero, List.set_cons_succ])
      refine wpTo_take (i := 7) (v := ?_) rfl (by kernel_rfl) (by kernel_rfl) (by kernel_rfl) (by kernel_rfl) (fun _ _ _ h => h) (Or.inl ⟨by rfl, ?_⟩) (by assumption) ?_
      rotate_left
      · (intro wx hSw; go_simp; (try with_reducible rfl))
      (try simp only [Act.put, List.getElem_toArray, List.getElem_cons_zero, List.getElem_cons_succ, List.setIfInBounds_toArray, List.set_cons_zero, List.set_cons_succ])
      refine wpTo_take (i := 8) (v := ?_) rfl (by kernel_rfl) (by kernel_rfl) (by kernel_rfl) (by kernel_rfl) (fun _ _ _ h => h) (Or.inl ⟨by rfl, ?_⟩) (by assumption) ?_
      rotate_left
      · (intro wx hSw; go_simp; (try with_reducible rfl))
      (try simp only [Act.put, List.getElem_toArray, List.getElem_cons_zero, List.getElem_cons_succ, List.setIfInBounds_toArray, List.set_cons_zero, List.set_cons_succ])
      refine wpTo_take (i := 9) (v := ?_) rfl (by kernel_rfl) (by kernel_rfl) (by kernel_rfl) (by kernel_rfl) (fun _ _ _ h => h) (Or.inl ⟨by rfl, ?_⟩) (by assumption) ?_
      rotate_left
      · (intro wx hSw; have k0 := hSw.out.2; go_simp; (try with_reducible rfl))
      (try simp only [Act.put, List.getElem_toArray, List.getElem_cons_zero, List.getElem_cons_succ, List.setIfInBounds_toArray, List.set_cons_zero, List.set_cons_succ])
      refine wpTo_take (i := 10) (v := ?_) rfl (by kernel_rfl) (by kernel_rfl) (by kernel_rfl) (by kernel_rfl) (fun _ _ _ h => h) (Or.inl ⟨by rfl, ?_⟩) (by assumption) ?_
      rotate_left
      · (intro wx hSw; go_simp; (try with_reducible rfl))
      (try simp only [Act.put, List.getElem_toArray, List.getElem_cons_zero, List.getElem_cons_succ, List.setIfInBounds_toArray, List.set_cons_zero, List.set_cons_succ])
      refine wpTo_one (i := 11) (by kernel_rfl) rfl (fun K hK => ?_)
      go_simp
      have bA : Below Wd.heap.size Wd (Wd.alloc (.cells #[.string ⟨#[122, 111, 110, 101]⟩, .int .i64 o1, .bool d1] 126)) := (Below.refl _ _).alloc (Nat.le_refl _) _
      have HN : Hid (RowAt (Wd.alloc (.cells #[.string ⟨#[122, 111, 110, 101]⟩, .int .i64 o1, .bool d1] 126)) w.heap.size 124 (locC vz (.slice none 0 0)) ∧ (Wd.alloc (.cells #[.string ⟨#[122, 111, 110, 101]⟩, .int .i64 o1, .bool d1] 126)).cell? ⟨db, doff + k, none⟩ = some (.bool d1)) := Lib.hid ⟨hHeld.out.1.below bA, cellBS bA hHeld.out.2⟩
      refine hK.out _ _ (Or.inr HN) (fun _ => ?_)
      clear hK K hHeld
      have hHeld := HN
      clear HN
      have hcn := cells_new Wd #[.string ⟨#[122, 111, 110, 101]⟩, .int .i64 o1, .bool d1] 126
      obtain ⟨cs, hcl, hcz, hown2, hRR⟩ := HOd.out.below RZn.mono bA
      rw [List.length_take_of_le (by rw [List.length_zip]; omega)] at hown2 hcl
      have bAA := hbd.trans (bA.mono hbd.size)
      (try simp only [Act.put, List.getElem_toArray, List.getElem_cons_zero, List.getElem_cons_succ, List.setIfInBounds_toArray, List.set_cons_zero, List.set_cons_succ])
      refine wpTo_one (i := 12) (by kernel_rfl) rfl (fun K hK => ?_)
      rw [if_pos (by rfl)]
      refine wp_append_own (.tmp 27) (.tmp 34) 120 rfl w.heap.size 126 i0 (.agg #[.string ByteArray.empty, .int .i64 0, .bool false]) 3 32 Try.underlying120 hi hz0 hz1 hz2 rfl (by decide) _ k _ (by simp [Act.eval]) hown2 ⟨Wd.heap.size, 0, none⟩ 1 1 [.string ⟨#[122, 111, 110, 101]⟩, .int .i64 o1, .bool d1] (by simp [Act.eval]) rfl hcn ?_ ?_ ?_ ?_ ?_
      · intro u hu; simp at hu; rcases hu with rfl | rfl | rfl <;> rfl
      · unfold maxLen; omega
      · omega
      · exact bAA.size
      intro v' w3 hown3 hgrow
      have hp := OwnOf.push (RZn.stab (e := 126)) (x := (o1, d1)) (List.length_take_of_le (by rw [List.length_zip]; omega)) hcl hcz hown2 hRR hgrow hown3 rfl rfl
      rw [← take_snoc (offs.zip dsts) k _ Hzk.out] at hp
      obtain ⟨ao6, cap6, hv6⟩ := hp.sl.len
      have hv7 : v' = .slice ao6 (k + 1) cap6 := by rw [hv6, List.length_take_of_le (by rw [List.length_zip]; omega)]
      clear hv6
      subst hv7
      have hE3 := Exc.ofGrown hown2 hgrow
      have b3 := Below.grown bAA hgrow bAA.size (fun k hk => (hown2.lt k hk).1)
      have HN : Hid (RowAt w3 w.heap.size 124 (locC vz (.slice none 0 0)) ∧ w3.cell? ⟨db, doff + k, none⟩ = some (.bool d1)) := Lib.hid ⟨hHeld.out.1.excT hE3 (by decide), cellBS b3 kd00.out⟩
      refine hK.out _ _ (Or.inr HN) (fun _ => ?_)
      clear hK K hHeld
      have hHeld := HN
      clear HN
      have hpp := Lib.hid hp
      clear hgrow hown3 hown2 hRR hcz hcl hp hE3 bAA bA hcn HOd hbd
      (try simp only [Act.put, List.getElem_toArray, List.getElem_cons_zero, List.getElem_cons_succ, List.setIfInBounds_toArray, List.set_cons_zero, List.set_cons_succ])
      refine wpTo_one (i := 13) (by kernel_rfl) rfl (fun K hK => ?_)
      go_simp
      refine hK.out _ _ (Or.inr hHeld) (fun _ => ?_)
      clear hK K
      (try simp only [Act.put, List.getElem_toArray, List.getElem_cons_zero, List.getElem_cons_succ, List.setIfInBounds_toArray, List.set_cons_zero, List.set_cons_succ])
      refine wpTo_one (i := 14) (by kernel_rfl) rfl (fun K hK => ?_)
      go_simp
      refine hK.out _ _ (Or.inr hHeld) (fun _ => ?_)
      clear hK K
      (try simp only [Act.put, List.getElem_toArray, List.getElem_cons_zero, List.getElem_cons_succ, List.setIfInBounds_toArray, List.set_cons_zero, List.set_cons_succ])
      have s0 : w3.cell? ⟨w.heap.size, 2, none⟩ = some (vz) := hHeld.out.1.cell 2
      have s1 := hHeld.out.1.free 2
      refine wpTo_one (i := 15) (by kernel_rfl) rfl (fun K hK => ?_)
      go_simp
      refine hK.out _ _ (Or.inl rfl) (fun _ => ?_)
      clear hK K
      (try simp only [Act.put, List.getElem_toArray, List.getElem_cons_zero, List.getElem_cons_succ, List.setIfInBounds_toArray, List.set_cons_zero, List.set_cons_succ])
      refine wpTo_done (by kernel_rfl) ?_ _
      have hS4 : RowAt (w3.setCell ⟨w.heap.size, 2, none⟩ (.slice ao6 (k + 1) cap6)) w.heap.size 124 (locC (.slice ao6 (k + 1) cap6) (.slice none 0 0)) := heap_setCell_same _ _ 2 _ _ _ hHeld.out.1
      have hp4 := hpp.out.exc (e' := 124) (by decide) (RZn.stab) (Exc.ofSet hHeld.out.1 (i := 2) (.slice ao6 (k + 1) cap6))
      have hb4 : Below w.heap.size w (w3.setCell ⟨w.heap.size, 2, none⟩ (.slice ao6 (k + 1) cap6)) := b3.setCell (p := ⟨w.heap.size, 2, none⟩) (Nat.le_refl _) _
      have HP4 := Lib.hid hp4
      have HS4 := Lib.hid hS4
      clear s0 s1 hp4 hS4 hpp b3 hHeld
      go_wp2_with fail
      go_roundw
      case rel => exact ⟨.int .i64 k, .int .i64 o1, .int .i64 ((k : Int) + 1), ⟨k + 1, by omega, by go_num, _, HS4.out, HP4.out⟩, rfl, rfl, rfl⟩
      case measure => simp [intOf]; omega
    · obtain rfl : k = offs.length := by omega
      rw [List.take_of_length_le (by rw [List.length_zip]; omega)] at hO
      obtain ⟨az6, cz6, hvz⟩ := hO.sl.len
      have HZ0 := Lib.hid hO
      have HR0 := Lib.hid hR
      have HB0 := Lib.hid hb
      clear hO hR hb hvz
      go_wp2_with fail
      go_loopw [41] (fun tk wr => ∃ (k : Nat) (vt : Value), k ≤ whens.length ∧ tk = .int .i64 k ∧ RowAt wr w.heap.size 124 (locC vz vt) ∧ OwnOf RZn 3 w.heap.size 126 wr vz (offs.zip dsts) ∧ OwnOf RTx 4 w.heap.size 128 wr vt ((whens.zip idxs).take k) ∧ Below w.heap.size w wr) (fun tk _ => whens.length - (intOf tk).toNat)
      case atStart => exact ⟨0, _, Nat.zero_le _, rfl, HR0.out, HZ0.out, OwnOf.nil _ _ _ _ _, HB0.out⟩
      case round =>
        clear HZ0 HR0 HB0
        obtain ⟨vz0, hvz0⟩ : ∃ vz0, vz0 = vz := ⟨_, rfl⟩
        rw [← hvz0] at hrel ⊢
        clear hvz0
        clear vz
        obtain ⟨k, vz, hk, rfl, hR, hZ, hO, hb⟩ := hrel
        by_cases hkL : k < whens.length
        · obtain ⟨o1, ho1⟩ : ∃ x, whens[k]? = some x := ⟨whens[k], List.getElem?_eq_getElem hkL⟩
          obtain ⟨n1, hd1⟩ : ∃ x, idxs[k]? = some x := ⟨idxs[k]'(by omega), List.getElem?_eq_getElem (by omega)⟩
          obtain ⟨ob, ooff, rfl, ko0⟩ := HWN.out k o1 ho1
          obtain ⟨db, doff, rfl, kd0⟩ := HIX.out k n1 hd1
          have hn1 := hix.out n1 (List.mem_of_getElem? hd1)
          have hw8 : IntKind.wrap .u8 n1 = n1 := by rw [IntKind.wrap_u8]; omega
          have ko := cellBS hb ko0
          have kd := cellBS hb kd0
          have kd00 := Lib.hid kd0
          have HO := Lib.hid hO
          have HZ := Lib.hid hZ
          have hzk : (whens.zip idxs)[k]? = some (o1, n1) := by simp [List.getElem?_zip_eq_some, ho1, hd1]
          have Hzk := Lib.hid hzk
          have hkd : k < idxs.length := by omega
          clear ko0 kd0 hO ho1 hd1 hzk hZ
          go_wp2_with fail
          have HS5 : Hid (RowAt wr.drew w.heap.size 124 (locC vz0 vz) ∧ wr.drew.cell? ⟨db, doff + k, none⟩ = some (.int .i64 n1)) := Lib.hid ⟨hR, kd⟩
          refine wp_region_to (S := fun w' => Hid (RowAt w' w.heap.size 124 (locC vz0 vz) ∧ w'.cell? ⟨db, doff + k, none⟩ = some (.int .i64 n1))) 16 (by kernel_rfl) (HS5) (fun hHeld => ?_)
          (try simp only [Act.put, List.getElem_toArray, List.getElem_cons_zero, List.getElem_cons_succ, List.setIfInBounds_toArray, List.set_cons_zero, List.set_cons_succ])
          have HOd := Lib.hid (HO.out.below (RTx.stab (e := 0)).mono ((Below.refl _ _).drew))
          have hbd := hb.drew
          have HZd := HZ.out.below RZn.mono ((Below.refl _ _).drew)
          generalize wr.drew = Wd at HOd hbd HZd hHeld ⊢
          refine wpTo_take (i := 0) (v := ?_) rfl (by kernel_rfl) (by kernel_rfl) (by kernel_rfl) (by kernel_rfl) (fun _ _ _ h => h) (Or.inl ⟨by rfl, ?_⟩) (by assumption) ?_
          rotate_left
          · (intro wx hSw; go_simp; (try with_reducible rfl))
          (try simp only [Act.put, List.getElem_toArray, List.getElem_cons_zero, List.getElem_cons_succ, List.setIfInBounds_toArray, List.set_cons_zero, List.set_cons_succ])
          refine wpTo_take (i := 1) (v := ?_) rfl (by kernel_rfl) (by kernel_rfl) (by kernel_rfl) (by kernel_rfl) (fun _ _ _ h => h) (Or.inl ⟨by rfl, ?_⟩) (by assumption) ?_
          rotate_left
          · (intro wx hSw; go_simp; (try with_reducible rfl))
          (try simp only [Act.put, List.getElem_toArray, List.getElem_cons_zero, List.getElem_cons_succ, List.setIfInBounds_toArray, List.set_cons_zero, List.set_cons_succ])
          refine wpTo_take (i := 2) (v := ?_) rfl (by kernel_rfl) (by kernel_rfl) (by kernel_rfl) (by kernel_rfl) (fun _ _ _ h => h) (Or.inl ⟨by rfl, ?_⟩) (by assumption) ?_
          rotate_left
          · (intro wx hSw; go_simp; (try with_reducible rfl))
          (try simp only [Act.put, List.getElem_toArray, List.getElem_cons_zero, List.getElem_cons_succ, List.setIfInBounds_toArray, List.set_cons_zero, List.set_cons_succ])
          refine wpTo_take (i := 3) (v := ?_) rfl (by kernel_rfl) (by kernel_rfl) (by kernel_rfl) (by kernel_rfl) (fun _ _ _ h => h) (Or.inl ⟨by rfl, ?_⟩) (by assumption) ?_
          rotate_left
          · (intro wx hSw; go_simp; (try with_reducible rfl))
          (try simp only [Act.put, List.getElem_toArray, List.getElem_cons_zero, List.getElem_cons_succ, List.setIfInBounds_toArray, List.set_cons_zero, List.set_cons_succ])
          refine wpTo_take (i := 4) (v := ?_) rfl (by kernel_rfl) (by kernel_rfl) (by kernel_rfl) (by kernel_rfl) (fun _ _ _ h => h) (Or.inl ⟨by rfl, ?_⟩) (by assumption) ?_
          rotate_left
          · (intro wx hSw; have k0 : wx.cell? ⟨w.heap.size, 3, none⟩ = some vz := hSw.out.1.cell 3; go_simp; (try with_reducible rfl))
          (try simp only [Act.put, List.getElem_toArray, List.getElem_cons_zero, List.getElem_cons_succ, List.setIfInBounds_toArray, List.set_cons_zero, List.set_cons_succ])
          refine wpTo_take (i := 5) (v := ?_) rfl (by kernel_rfl) (by kernel_rfl) (by kernel_rfl) (by kernel_rfl) (fun _ _ _ h => h) (Or.inl ⟨by rfl, ?_⟩) (by assumption) ?_
          rotate_left
          · (intro wx hSw; go_simp; (try with_reducible rfl))
          (try simp only [Act.put, List.getElem_toArray, List.getElem_cons_zero, List.getElem_cons_succ, List.setIfInBounds_toArray, List.set_cons_zero, List.set_cons_succ])
          refine wpTo_take (i := 6) (v := ?_) rfl (by kernel_rfl) (by kernel_rfl) (by kernel_rfl) (by kernel_rfl) (fun _ _ _ h => h) (Or.inl ⟨by rfl, ?_⟩) (by assumption) ?_
          rotate_left
          · (intro wx hSw; go_simp; (try with_reducible rfl))
          (try simp only [Act.put, List.getElem_toArray, List.getElem_cons_zero, List.getElem_cons_succ, List.setIfInBounds_toArray, List.set_cons_zero, List.set_cons_succ])
          refine wpTo_take (i := 7) (v := ?_) rfl (by kernel_rfl) (by kernel_rfl) (by kernel_rfl) (by kernel_rfl) (fun _ _ _ h => h) (Or.inl ⟨by rfl, ?_⟩) (by assumption) ?_
          rotate_left
          · (intro wx hSw; go_simp; (try with_reducible rfl))
          (try simp only [Act.put, List.getElem_toArray, List.getElem_cons_zero, List.getElem_cons_succ, List.setIfInBounds_toArray, List.set_cons_zero, List.set_cons_succ])
          refine wpTo_take (i := 8) (v := ?_) rfl (by kernel_rfl) (by kernel_rfl) (by kernel_rfl) (by kernel_rfl) (fun _ _ _ h => h) (Or.inl ⟨by rfl, ?_⟩) (by assumption) ?_
          rotate_left
          · (intro wx hSw; go_simp; (try with_reducible rfl))
          (try simp only [Act.put, List.getElem_toArray, List.getElem_cons_zero, List.getElem_cons_succ, List.setIfInBounds_toArray, List.set_cons_zero, List.set_cons_succ])
          refine wpTo_take (i := 9) (v := ?_) rfl (by kernel_rfl) (by kernel_rfl) (by kernel_rfl) (by kernel_rfl) (fun _ _ _ h => h) (Or.inl ⟨by rfl, ?_⟩) (by assumption) ?_
          rotate_left
          · (intro wx hSw; have k0 := hSw.out.2; go_simp; (try with_reducible rfl))
          (try simp only [Act.put, List.getElem_toArray, List.getElem_cons_zero, List.getElem_cons_succ, List.setIfInBounds_toArray, List.set_cons_zero, List.set_cons_succ])
          refine wpTo_take (i := 10) (v := ?_) rfl (by kernel_rfl) (by kernel_rfl) (by kernel_rfl) (by kernel_rfl) (fun _ _ _ h => h) (Or.inl ⟨by rfl, ?_⟩) (by assumption) ?_
          rotate_left
          · (intro wx hSw; go_simp; (try with_reducible rfl))
          (try simp only [Act.put, List.getElem_toArray, List.getElem_cons_zero, List.getElem_cons_succ, List.setIfInBounds_toArray, List.set_cons_zero, List.set_cons_succ])
          refine wpTo_take (i := 11) (v := ?_) rfl (by kernel_rfl) (by kernel_rfl) (by kernel_rfl) (by kernel_rfl) (fun _ _ _ h => h) (Or.inl ⟨by rfl, ?_⟩) (by assumption) ?_
          rotate_left
          · (intro wx hSw; go_simp; (try with_reducible rfl))
          (try simp only [Act.put, List.getElem_toArray, List.getElem_cons_zero, List.getElem_cons_succ, List.setIfInBounds_toArray, List.set_cons_zero, List.set_cons_succ])
          refine wpTo_one (i := 12) (by kernel_rfl) rfl (fun K hK => ?_)
          go_simp
          have bA : Below Wd.heap.size Wd (Wd.alloc (.cells #[.int .i64 o1, .int .u8 n1, .bool false, .bool false] 128)) := (Below.refl _ _).alloc (Nat.le_refl _) _
          have HN : Hid (RowAt (Wd.alloc (.cells #[.int .i64 o1, .int .u8 n1, .bool false, .bool false] 128)) w.heap.size 124 (locC vz0 vz) ∧ (Wd.alloc (.cells #[.int .i64 o1, .int .u8 n1, .bool false, .bool false] 128)).cell? ⟨db, doff + k, none⟩ = some (.int .i64 n1)) := Lib.hid ⟨hHeld.out.1.below bA, cellBS bA hHeld.out.2⟩
          refine hK.out _ _ (Or.inr HN) (fun _ => ?_)
          clear hK K hHeld
          have hHeld := HN
          clear HN
          have hzA := HZd.below RZn.mono bA
          have hcn := cells_new Wd #[.int .i64 o1, .int .u8 n1, .bool false, .bool false] 128
          obtain ⟨cs, hcl, hcz, hown2, hRR⟩ := HOd.out.below RTx.mono bA
          rw [List.length_take_of_le (by rw [List.length_zip]; omega)] at hown2 hcl
          have bAA := hbd.trans (bA.mono hbd.size)
          (try simp only [Act.put, List.getElem_toArray, List.getElem_cons_zero, List.getElem_cons_succ, List.setIfInBounds_toArray, List.set_cons_zero, List.set_cons_succ])
          refine wpTo_one (i := 13) (by kernel_rfl) rfl (fun K hK => ?_)
          rw [if_pos (by rfl)]
          refine wp_append_own (.tmp 50) (.tmp 58) 121 rfl w.heap.size 128 j0 (.agg #[.int .i64 0, .int .u8 0, .bool false, .bool false]) 4 16 Try.underlying121 gi gz0 gz1 gz2 rfl (by decide) _ k _ (by simp [Act.eval]) hown2 ⟨Wd.heap.size, 0, none⟩ 1 1 [.int .i64 o1, .int .u8 n1, .bool false, .bool false] (by simp [Act.eval]) rfl hcn ?_ ?_ ?_ ?_ ?_
          · intro u hu; simp at hu; rcases hu with rfl | rfl | rfl <;> rfl
          · unfold maxLen; omega
          · omega
          · exact bAA.size
          intro v' w3 hown3 hgrow
          have hp := OwnOf.push (RTx.stab (e := 128)) (x := (o1, n1)) (List.length_take_of_le (by rw [List.length_zip]; omega)) hcl hcz hown2 hRR hgrow hown3 rfl rfl
          rw [← take_snoc (whens.zip idxs) k _ Hzk.out] at hp
          obtain ⟨ao6, cap6, hv6⟩ := hp.sl.len
          have hv7 : v' = .slice ao6 (k + 1) cap6 := by rw [hv6, List.length_take_of_le (by rw [List.length_zip]; omega)]
          clear hv6
          subst hv7
          have hE3 := Exc.ofGrown hown2 hgrow
          have hz3 := hzA.exc (e' := 128) (by decide) RZn.stab hE3
          have b3 := Below.grown bAA hgrow bAA.size (fun k hk => (hown2.lt k hk).1)
          have HN : Hid (RowAt w3 w.heap.size 124 (locC vz0 vz) ∧ w3.cell? ⟨db, doff + k, none⟩ = some (.int .i64 n1)) := Lib.hid ⟨hHeld.out.1.excT hE3 (by decide), cellBS b3 kd00.out⟩
          refine hK.out _ _ (Or.inr HN) (fun _ => ?_)
          clear hK K hHeld
          have hHeld := HN
          clear HN
          have hpp := Lib.hid hp
          clear hgrow hown3 hown2 hRR hcz hcl hp hE3 bAA bA hcn HOd hbd
          (try simp only [Act.put, List.getElem_toArray, List.getElem_cons_zero, List.getElem_cons_succ, List.setIfInBounds_toArray, List.set_cons_zero, List.set_cons_succ])
          refine wpTo_one (i := 14) (by kernel_rfl) rfl (fun K hK => ?_)
          go_simp
          refine hK.out _ _ (Or.inr hHeld) (fun _ => ?_)
          clear hK K
          (try simp only [Act.put, List.getElem_toArray, List.getElem_cons_zero, List.getElem_cons_succ, List.setIfInBounds_toArray, List.set_cons_zero, List.set_cons_succ])
          refine wpTo_one (i := 15) (by kernel_rfl) rfl (fun K hK => ?_)
          go_simp
          refine hK.out _ _ (Or.inr hHeld) (fun _ => ?_)
          clear hK K
          (try simp only [Act.put, List.getElem_toArray, List.getElem_cons_zero, List.getElem_cons_succ, List.setIfInBounds_toArray, List.set_cons_zero, List.set_cons_succ])
          have s0 : w3.cell? ⟨w.heap.size, 3, none⟩ = some (vz) := hHeld.out.1.cell 3
          have s1 := hHeld.out.1.free 3
          refine wpTo_one (i := 16) (by kernel_rfl) rfl (fun K hK => ?_)
          go_simp
          refine hK.out _ _ (Or.inl rfl) (fun _ => ?_)
          clear hK K
          (try simp only [Act.put, List.getElem_toArray, List.getElem_cons_zero, List.getElem_cons_succ, List.setIfInBounds_toArray, List.set_cons_zero, List.set_cons_succ])
          refine wpTo_done (by kernel_rfl) ?_ _
          have hS4 : RowAt (w3.setCell ⟨w.heap.size, 3, none⟩ (.slice ao6 (k + 1) cap6)) w.heap.size 124 (locC vz0 (.slice ao6 (k + 1) cap6)) := heap_setCell_same _ _ 3 _ _ _ hHeld.out.1
          have hp4 := hpp.out.exc (e' := 124) (by decide) (RTx.stab) (Exc.ofSet hHeld.out.1 (i := 3) (.slice ao6 (k + 1) cap6))
          have hb4 : Below w.heap.size w (w3.setCell ⟨w.heap.size, 3, none⟩ (.slice ao6 (k + 1) cap6)) := b3.setCell (p := ⟨w.heap.size, 3, none⟩) (Nat.le_refl _) _
          have hz4 := Lib.hid (hz3.exc (e' := 124) (by decide) RZn.stab (Exc.ofSet hHeld.out.1 (i := 3) (.slice ao6 (k + 1) cap6)))
          have HP4 := Lib.hid hp4
          have HS4 := Lib.hid hS4
          clear s0 s1 hp4 hS4 hpp b3 hHeld
          go_wp2_with fail
          go_roundw
          case rel => exact ⟨.int .i64 k, .int .i64 o1, .int .i64 ((k : Int) + 1), ⟨k + 1, by omega, by go_num, _, HS4.out, hz4.out, HP4.out⟩, rfl, rfl, rfl⟩
          case measure => simp [intOf]; omega
        · obtain rfl : k = whens.length := by omega
          rw [List.take_of_length_le (by rw [List.length_zip]; omega)] at hO
          go_wp2_with fail
          go_ret
          exact ⟨rfl, ⟨_, _, hR, hZ.sl, hO.sl⟩, hb⟩

end Go.Proofs.Ytpgclepiagfgfaa
