/- digestset.ShortCodeTable over digests of one algorithm and one length. -/
import Derived.Test.YtljopdkonahfhaaScB
import Derived.Maps.Own
import Derived.Maps.OwnOps
import Derived.Maps.Views
import Derived.Deep.RegionHeld3
import Derived.Maps.StringElems
namespace Go.Proofs.Ytljopdkonahfhaa
open Go.RowKit Go.RwLone Go.Maps Go.WideMaps
set_option linter.unusedVariables false
set_option linter.unusedSimpArgs false

abbrev TDg : TypeId := 41
abbrev TMp : TypeId := 37
abbrev TSt : TypeId := 9
theorem lawDg : Keyed Try.prog TDg := string_keyed Try.underlying41
def keyL (a x : ByteArray) : Lit := .string (dgOf a x).data.toList
def strD (s : ByteArray) : DataW Unit := .lit (.string s.data.toList)
theorem dgOf_inj {a x y : ByteArray} (h : dgOf a x = dgOf a y) : x = y := by
  unfold dgOf at h
  have h2 := congrArg (fun b => b.data.toList) h
  simp at h2
  exact ByteArray.ext (by simpa using h2)
theorem keyL_inj {a x y : ByteArray} (h : keyL a x = keyL a y) : x = y := by
  unfold keyL at h
  injection h with h
  exact dgOf_inj (ByteArray.ext (by simpa using h))
/-- After i rounds the table has each digest; where 'good' holds each has just what 'want' says. -/
def CI (a : ByteArray) (l : List ByteArray) (good : Prop) (want : ByteArray → ByteArray) (i : Nat) (D : DataW Unit) : Prop :=
  IsMap D ∧ ∀ j x, j < i → l[j]? = some x → ∃ s : ByteArray, D.atKey (keyL a x) (strD ⟨#[]⟩) = strD s ∧ (good → s = want x)
theorem CI.step {a : ByteArray} {l : List ByteArray} {good : Prop} {want : ByteArray → ByteArray} {i : Nat} {D : DataW Unit} (h : CI a l good want i D) {x s : ByteArray} (hx : l[i]? = some x) (hs : good → s = want x) : CI a l good want (i + 1) (D.put (keyL a x) (strD s)) := by
  obtain ⟨hm, h⟩ := h
  have hm2 : IsMap (D.put (keyL a x) (strD s)) := by
    obtain ⟨es, rfl⟩ := hm
    exact ⟨_, rfl⟩
  refine ⟨hm2, fun j y hj hy => ?_⟩
  by_cases hk : keyL a y = keyL a x
  · refine ⟨s, ?_, fun g => ?_⟩
    · rw [hk, atKey_put_same hm (by unfold keyL; trivial)]
    · rw [keyL_inj hk]; exact hs g
  · obtain ⟨s2, h1, h2⟩ := h j y (by
      rcases Nat.lt_or_ge j i with k | k
      · exact k
      · obtain rfl : j = i := by omega
        rw [hx] at hy
        exact absurd (by rw [Option.some.inj hy]) hk) hy
    exact ⟨s2, by rw [atKey_put_other hk]; exact h1, h2⟩
theorem CI.nil (a : ByteArray) (l : List ByteArray) (good : Prop) (want : ByteArray → ByteArray) : CI a l good want 0 (.map []) := ⟨⟨_, rfl⟩, fun j x hj => by omega⟩

theorem dgOf_size (a x : ByteArray) : (dgOf a x).size = a.size + 1 + x.size := by unfold dgOf; simp [ByteArray.size_append]; rfl
set_option maxHeartbeats 400000 in
theorem dgString_any (s : ByteArray) (w : World) : Calls Try.prog 18 #[.string s] w fun e w' => e = .returned (.string s) ∧ w = w' := by
  go_enter Try.func18, Try.ntmps18
  go_wp2_with fail
  go_ret
  exact ⟨rfl, rfl⟩
theorem run_makeMapN (n : Int) (w : World) : (Instr.makeMap TMp (some (.int .i64 n))).run Try.prog w = .ok (.map (some w.heap.size)) (w.alloc (.map #[] 0)) := by
  simp [Instr.makeMap, run_underlying Try.underlying37, asInt, asIntOf, Result.andThen]

/-- Slots filled one after the other. -/
def puts (a : Act) : List (Tmp × Value) → Act
  | [] => a
  | (i, v) :: l => puts (a.put (some i) v) l
def RegX {α : Type} (A : α → Act) (F : α → World → Prop) : Exit → Act → World → Prop := fun e a w => e = .normal ∧ ∃ x, a = A x ∧ F x w
theorem reg_framex {α : Type} {P : Program} {c : Code} {Q' : Exit → Act → World → Prop} {a : Act} {w : World} (A : α → List (Tmp × Value)) (F : α → World → Prop)
    (h1 : c.wp P (RegX (fun x => puts a (A x)) F) a w) (h2 : ∀ x w', F x w' → Q' .normal (puts a (A x)) w') : c.wp P Q' a w :=
  Code.wp_mono (fun e a' w' ⟨he, x, ha, hf⟩ => by subst he; subst ha; exact h2 x w' hf) h1
def extM (L : Nat) (tl te : Value) : Nat := match te with | .bool true => 1 + (L - (intOf tl).toNat) | _ => 0
def TabPost (a : ByteArray) (l : List ByteArray) (good : Prop) (want : ByteArray → ByteArray) (G : Nat) (w : World) (e : Ending) (w' : World) : Prop :=
  e = .returned (.map (some w.heap.size)) ∧ (∃ D, w'.ownsMap Try.prog TDg (plainElem Try.prog TSt) w.heap.size l.length D ∧ CI a l good want l.length D) ∧ ∀ B, B ≤ G → Below B w w'

set_option maxRecDepth 100000 in
set_option maxHeartbeats 8000000 in
theorem table_any (a : ByteArray) (l : List ByteArray) (L lenN : Nat) (hL : Hid (∀ x ∈ l, x.size = L)) (hL2 : L ≤ 200) (hlen : lenN ≤ 300) (hll : l.length ≤ 40) (ha : a.size ≤ 50)
    (good : Prop) (want : ByteArray → ByteArray) (hwhole : Hid (L ≤ lenN → ∀ x, want x = dgOf a x)) (hpart : Hid (¬ L ≤ lenN → ∀ x, want x = x.extract 0 lenN))
    (hgood : Hid (good → ¬ L ≤ lenN → ∀ i x y, l[i]? = some x → l[i + 1]? = some y → preB y lenN (x.extract 0 lenN) = false))
    (u : Value) (G B : Nat) (w : World) (HS : Hid (SetAt w G u 0)) (HO : Hid (OwnOf (REnt a) 1 B TPE w u l)) :
    Calls Try.prog 12 #[.pointer (some ⟨G, 0, none⟩), .int .i64 lenN] w (TabPost a l good want G w) := by
  have hmm := run_makeMapN
  have hw32 : RowKit.wrap32 (0 + 1) = 1 := by decide +kernel
  have x0 : w.cell? ⟨G, 0, none⟩ = some (.int .i32 0) := HS.out.cell 0
  have x2 : w.cell? ⟨G, 0 + 2, none⟩ = some (.int .u32 0) := HS.out.cell 2
  have x3 : w.cell? ⟨G, 0 + 3, none⟩ = some (.int .u32 0) := HS.out.cell 3
  have x4 : w.cell? ⟨G, 0 + 4, none⟩ = some (.int .i32 0) := HS.out.cell 4
  have z4 : w.frozen? ⟨G, 0 + 4, none⟩ = false := HS.out.free 4
  go_enter_defers Try.func12, Try.ntmps12
  go_wp2_with fail
  refine (rlock_open rwRLib G 0 0 _ _ _ x0 x3 x4 z4 (by rw [hw32]; decide)).mono ?_
  rintro e w1 ⟨rfl, hw1⟩
  have HS1 : Hid (SetAt w1 G u 1) := Lib.hid (by rw [hw1, hw32]; exact HS.out.set 4 _)
  have HO1 : Hid (OwnOf (REnt a) 1 B TPE w1 u l) := Lib.hid (by rw [hw1]; exact HO.out.exc (e' := TSet) (by decide) (REnt.stab (by decide)) (Exc.ofSet HS.out (i := 4) _))
  have HB1 : Hid (∀ C, C ≤ G → Below C w w1) := Lib.hid (fun C hC => by rw [hw1]; exact (Below.refl _ _).setCell (p := ⟨G, 4, none⟩) hC _)
  have HZ1 : Hid (w.heap.size = w1.heap.size) := Lib.hid (by rw [hw1]; simp)
  clear hw1 x0 x2 x3 x4 z4
  obtain ⟨ao, cap, rfl, hx0⟩ := HO1.out.sl
  have HX : Hid (∀ j x, l[j]? = some x → ∃ b off, ao = some ⟨b, off, none⟩ ∧ ∃ g, w1.cell? ⟨b, off + j, none⟩ = some (.pointer (some ⟨g, 0, none⟩)) ∧ RowAt w1 g TEnt (entC a x)) := Lib.hid (fun j x h => by
    obtain ⟨b, off, us, e, hz, hc, g, rfl, hg⟩ := hx0 j x h
    have := hc 0 _ rfl
    simp only [Nat.mul_one, Nat.add_zero] at this
    exact ⟨b, off, e, g, this, hg⟩)
  clear hx0
  have c6 : w1.cell? ⟨G, 6, none⟩ = some (.slice ao l.length cap) := HS1.out.cell 6
  go_wp2_with fail
  clear hmm
  have hown0 : (w1.alloc (.map #[] 0)).ownsMap (H := Unit) Try.prog TDg (plainElem Try.prog TSt) w1.heap.size 0 (.map []) := World.ownsMap_made _ _ _ _
  have hb0 : Below w1.heap.size w1 (w1.alloc (.map #[] 0)) := (Below.refl _ _).alloc (Nat.le_refl _) _
  go_loopw [6, 7, 8] (fun tl tr ti wr => ∃ (lc r i : Nat), tl = .int .i64 lc ∧ tr = .int .i64 r ∧ ti = .int .i64 i ∧ i ≤ l.length ∧ lc ≤ 500 ∧ lenN ≤ lc ∧ r ≤ 100 ∧ Hid (good → lc = lenN) ∧ (∃ D, wr.ownsMap Try.prog TDg (plainElem Try.prog TSt) w1.heap.size i D ∧ CI a l good want i D) ∧ Below w1.heap.size w1 wr) (fun _ _ ti _ => l.length - (intOf ti).toNat)
  case atStart => exact ⟨lenN, 0, 0, rfl, rfl, rfl, by omega, by omega, by omega, by omega, Lib.hid (fun _ => rfl), ⟨_, hown0, CI.nil _ _ _ _⟩, hb0⟩
  case round =>
    clear hown0 hb0
    obtain ⟨lc, r, i, rfl, rfl, rfl, hi, hlc, hlen2, hr, hlg, ⟨D, hown, hCI⟩, hb⟩ := hrel
    have k6 := cellBS hb c6
    have HB := Lib.hid hb
    have HM := Lib.hid hown
    have HCI := Lib.hid hCI
    clear hb hown hCI
    by_cases hiL : i < l.length
    · obtain ⟨x, hlx⟩ : ∃ x, l[i]? = some x := ⟨l[i], List.getElem?_eq_getElem hiL⟩
      obtain ⟨b, off, rfl, g, hg1, hg2⟩ := HX.out i x hlx
      have hxL := hL.out x (List.mem_of_getElem? hlx)
      have Hlx := Lib.hid hlx
      clear hlx
      have HG1 := Lib.hid hg1
      have HG2 := Lib.hid hg2
      clear hg1 hg2
      go_wp2_with fail
      obtain ⟨wo, hwo⟩ : ∃ wo, Hid (wo = wr) := ⟨_, rfl⟩
      rw [← hwo.out] at HB HM k6 ⊢
      clear hwo
      clear wr
      go_loopw [6, 7, 9, 10] (fun tl tr ts te wr => ∃ (lc r : Nat) (s : ByteArray) (ext : Bool), tl = .int .i64 lc ∧ tr = .int .i64 r ∧ ts = .string s ∧ te = .bool ext ∧ lc ≤ 500 ∧ lenN ≤ lc ∧ r ≤ 100 ∧ s.size ≤ 1000 ∧ Hid (good → lc = lenN) ∧ Hid (ext = false → good → s = want x) ∧ Hid (wr.ownsMap Try.prog TDg (plainElem Try.prog TSt) w1.heap.size i D) ∧ Below w1.heap.size w1 wr) (fun tl _ _ te _ => extM L tl te)
      case atStart => exact ⟨lc, r, ⟨#[]⟩, true, rfl, rfl, rfl, rfl, hlc, hlen2, hr, by decide, hlg, Lib.hid (fun h => by cases h), HM, HB.out⟩
      case round =>
        clear HM HB k6 hlg hlc hlen2 hr
        obtain ⟨lc, r, s, ext, rfl, rfl, rfl, rfl, hlc, hlen2, hr, hs, hlg, hsw, HM, hb⟩ := hrel
        cases ext with
        | false =>
          have k6 := cellBS hb c6
          have k7 := cellBS hb HG1.out
          have kg := HG2.out.below hb
          have k9 : wr.cell? ⟨g, 2, none⟩ = some (.string (dgOf a x)) := kg.cell 2
          have hkey : keyOf Try.prog TDg (.string (dgOf a x)) = some (keyL a x) := keyOf_string_mk Try.underlying41 (by rw [dgOf_size]; unfold maxLen; omega)
          have hval : plainElem (H := Unit) Try.prog TSt (.string s) = some (strD s, []) := plainElem_string Try.underlying9 (by unfold maxLen; omega)
          have HB := Lib.hid hb
          clear kg hb
          go_wp2_with (first | (at_mapUpdate; refine wpList_mapUpdate_own _ rfl _ _ _ TMp rfl TDg TSt lawDg Try.underlying37 _ w1.heap.size i D rfl HM.out (by unfold maxLen; omega) _ _ _ rfl rfl hkey (strD s) [] hval ?_) | go_in)
          intro w2 hown2 hgrow2
          have HC2 := Lib.hid (HCI.out.step Hlx.out (hsw.out (by trivial)))
          have hb2 := HB.out.grown hgrow2 HB.out.size (fun j hj => by cases hj; exact Nat.le_refl _)
          have HM2 := Lib.hid hown2
          clear hgrow2 hown2 k6 k7 k9 hkey hval
          by_cases hri : (r : Int) ≤ (i : Int)
          · go_wp2_with fail
            go_roundw
            case rel => exact ⟨lenN, r, i + 1, rfl, rfl, by go_num, by omega, by omega, by omega, hr, Lib.hid (fun _ => rfl), ⟨_, HM2.out, HC2.out⟩, hb2⟩
            case measure => simp [intOf]; omega
          · go_wp2_with fail
            go_roundw
            case rel => exact ⟨lc, r, i + 1, rfl, rfl, by go_num, by omega, by omega, by omega, hr, hlg, ⟨_, HM2.out, HC2.out⟩, hb2⟩
            case measure => simp [intOf]; omega
        | true =>
          have k6 := cellBS hb c6
          have k7 := cellBS hb HG1.out
          have kg := HG2.out.below hb
          have k8 : wr.cell? ⟨g, 1, none⟩ = some (.string x) := kg.cell 1
          have k9 : wr.cell? ⟨g, 2, none⟩ = some (.string (dgOf a x)) := kg.cell 2
          have HB := Lib.hid hb
          clear kg hb hsw
          by_cases hle : (x.size : Int) ≤ (lc : Int)
          · go_wp2_with fail
            refine (dgString_any (dgOf a x) _).mono ?_
            rintro e wq ⟨rfl, rfl⟩
            clear k6 k7 k8 k9
            go_wp2_with fail
            go_roundw
            case rel => exact ⟨lc, r, dgOf a x, false, rfl, rfl, rfl, rfl, hlc, hlen2, hr, by rw [dgOf_size]; omega, hlg, Lib.hid (fun _ g => (hwhole.out (by have := hlg.out g; omega) x).symm), HM, HB.out⟩
            case measure => (simp [extM]; omega)
          · have hlt : lc < x.size := by omega
            have hnw : ¬ L ≤ lenN := by omega
            have hsx : (x.extract 0 lc).size = lc := by rw [ByteArray.size_extract]; omega
            go_wp2_with fail
            clear k8 k9
            obtain ⟨wm, hwm⟩ : ∃ wm, Hid (wm = wr) := ⟨_, rfl⟩
            rw [← hwm.out] at HB HM k6 k7 ⊢
            clear hwm k6 k7
            (try clear wr)
            go_loopw [7, 10, 11] (fun tr te tj wr => ∃ (r j : Nat) (ext : Bool), tr = .int .i64 r ∧ te = .bool ext ∧ tj = .int .i64 j ∧ i + 1 ≤ j ∧ j ≤ l.length ∧ r ≤ 100 ∧ Hid (ext = true → ¬ good) ∧ Hid (i + 1 < j → ¬ good) ∧ Hid (wr.ownsMap Try.prog TDg (plainElem Try.prog TSt) w1.heap.size i D) ∧ Below w1.heap.size w1 wr) (fun _ _ tj _ => l.length - (intOf tj).toNat)
            case atStart => exact ⟨r, i + 1, false, rfl, rfl, by go_num, by omega, by omega, hr, Lib.hid (fun h => by cases h), Lib.hid (fun h => by omega), HM, HB.out⟩
            case round =>
              clear HM HB hr
              obtain ⟨r, j, ext, rfl, rfl, rfl, hj1, hj2, hr, hext, hjg, HM, hb⟩ := hrel
              have k6 := cellBS hb c6
              by_cases hjL : j < l.length
              · obtain ⟨y, hly⟩ : ∃ y, l[j]? = some y := ⟨l[j], List.getElem?_eq_getElem hjL⟩
                obtain ⟨b2, off2, e2, g2, hp1, hp2⟩ := HX.out j y hly
                obtain ⟨rfl, rfl⟩ : b2 = b ∧ off2 = off := by simp at e2; exact ⟨e2.1.symm, e2.2.symm⟩
                have hyL := hL.out y (List.mem_of_getElem? hly)
                have Hly := Lib.hid hly
                clear hly e2
                have hji : (j : Int) < (l.length : Int) := by omega
                have HSd : Hid (wr.drew.cell? ⟨G, 6, none⟩ = some (.slice (some ⟨b2, off2, none⟩) l.length cap) ∧ wr.drew.cell? ⟨b2, off2 + j, none⟩ = some (.pointer (some ⟨g2, 0, none⟩)) ∧ RowAt wr.drew g2 TEnt (entC a y)) := Lib.hid ⟨k6, cellBS hb.drew hp1, hp2.below hb.drew⟩
                have HMd : Hid (wr.drew.ownsMap Try.prog TDg (plainElem Try.prog TSt) w1.heap.size i D) := Lib.hid HM.out.drew
                have HBd : Hid (Below w1.heap.size w1 wr.drew) := Lib.hid hb.drew
                clear hp1 hp2
                go_wp2_with fail
                refine reg_framex (fun _ : Unit => [(83, .pointer (some ⟨G, 0, none⟩)), (84, .pointer (some ⟨G, 0, none⟩)), (85, .pointer (some ⟨G, 6, none⟩)), (86, .slice (some ⟨b2, off2, none⟩) l.length cap), (87, .int .i64 j), (88, .pointer (some ⟨b2, off2 + j, none⟩)), (89, .pointer (some ⟨g2, 0, none⟩)), (90, .pointer (some ⟨g2, 0, none⟩)), (91, .pointer (some ⟨g2, 0, none⟩)), (92, .string a), (93, .pointer (some ⟨G, 0, none⟩)), (94, .pointer (some ⟨G, 0, none⟩)), (95, .pointer (some ⟨G, 6, none⟩)), (96, .slice (some ⟨b2, off2, none⟩) l.length cap), (97, .int .i64 j), (98, .pointer (some ⟨b2, off2 + j, none⟩)), (99, .pointer (some ⟨g2, 0, none⟩)), (100, .pointer (some ⟨g2, 0, none⟩)), (101, .pointer (some ⟨g2, 1, none⟩)), (102, .string y), (103, .string (x.extract 0 lc)), (104, .bool (preB y lc (x.extract 0 lc)))]) (fun _ w' => w' = wr.drew) ?reg ?hq
                case reg =>
                  refine wp_region_held_drew (S := fun w' => Hid (w'.cell? ⟨G, 6, none⟩ = some (.slice (some ⟨b2, off2, none⟩) l.length cap) ∧ w'.cell? ⟨b2, off2 + j, none⟩ = some (.pointer (some ⟨g2, 0, none⟩)) ∧ RowAt w' g2 TEnt (entC a y))) (by kernel_rfl) HSd (fun hHeld => ?_)
                  (try simp only [Act.put, List.getElem_toArray, List.getElem_cons_zero, List.getElem_cons_succ, List.setIfInBounds_toArray, List.set_cons_zero, List.set_cons_succ])
                  refine wpAnyH_take (i := 0) (v := ?_) rfl (by kernel_rfl) (by kernel_rfl) (by kernel_rfl) (fun _ _ _ h => nomatch h.1) (Or.inl ⟨by rfl, ?_⟩) (by assumption) ?_
                  rotate_left
                  · (intro wx hSw; go_simp; (try with_reducible rfl))
                  (try simp only [Act.put, List.getElem_toArray, List.getElem_cons_zero, List.getElem_cons_succ, List.setIfInBounds_toArray, List.set_cons_zero, List.set_cons_succ])
                  refine wpAnyH_take (i := 1) (v := ?_) rfl (by kernel_rfl) (by kernel_rfl) (by kernel_rfl) (fun _ _ _ h => nomatch h.1) (Or.inl ⟨by rfl, ?_⟩) (by assumption) ?_
                  rotate_left
                  · (intro wx hSw; go_simp; (try with_reducible rfl))
                  (try simp only [Act.put, List.getElem_toArray, List.getElem_cons_zero, List.getElem_cons_succ, List.setIfInBounds_toArray, List.set_cons_zero, List.set_cons_succ])
                  refine wpAnyH_take (i := 2) (v := ?_) rfl (by kernel_rfl) (by kernel_rfl) (by kernel_rfl) (fun _ _ _ h => nomatch h.1) (Or.inl ⟨by rfl, ?_⟩) (by assumption) ?_
                  rotate_left
                  · (intro wx hSw; go_simp; (try with_reducible rfl))
                  (try simp only [Act.put, List.getElem_toArray, List.getElem_cons_zero, List.getElem_cons_succ, List.setIfInBounds_toArray, List.set_cons_zero, List.set_cons_succ])
                  refine wpAnyH_take (i := 3) (v := ?_) rfl (by kernel_rfl) (by kernel_rfl) (by kernel_rfl) (fun _ _ _ h => nomatch h.1) (Or.inl ⟨by rfl, ?_⟩) (by assumption) ?_
                  rotate_left
                  · (intro wx hSw; have k0 := hSw.out.1; go_simp; (try with_reducible rfl))
                  (try simp only [Act.put, List.getElem_toArray, List.getElem_cons_zero, List.getElem_cons_succ, List.setIfInBounds_toArray, List.set_cons_zero, List.set_cons_succ])
                  refine wpAnyH_take (i := 4) (v := ?_) rfl (by kernel_rfl) (by kernel_rfl) (by kernel_rfl) (fun _ _ _ h => nomatch h.1) (Or.inl ⟨by rfl, ?_⟩) (by assumption) ?_
                  rotate_left
                  · (intro wx hSw; go_simp; (try with_reducible rfl))
                  (try simp only [Act.put, List.getElem_toArray, List.getElem_cons_zero, List.getElem_cons_succ, List.setIfInBounds_toArray, List.set_cons_zero, List.set_cons_succ])
                  refine wpAnyH_take (i := 5) (v := ?_) rfl (by kernel_rfl) (by kernel_rfl) (by kernel_rfl) (fun _ _ _ h => nomatch h.1) (Or.inl ⟨by rfl, ?_⟩) (by assumption) ?_
                  rotate_left
                  · (intro wx hSw; go_simp; (try with_reducible rfl))
                  (try simp only [Act.put, List.getElem_toArray, List.getElem_cons_zero, List.getElem_cons_succ, List.setIfInBounds_toArray, List.set_cons_zero, List.set_cons_succ])
                  refine wpAnyH_take (i := 6) (v := ?_) rfl (by kernel_rfl) (by kernel_rfl) (by kernel_rfl) (fun _ _ _ h => nomatch h.1) (Or.inl ⟨by rfl, ?_⟩) (by assumption) ?_
                  rotate_left
                  · (intro wx hSw; have k0 := hSw.out.2.1; go_simp; (try with_reducible rfl))
                  (try simp only [Act.put, List.getElem_toArray, List.getElem_cons_zero, List.getElem_cons_succ, List.setIfInBounds_toArray, List.set_cons_zero, List.set_cons_succ])
                  refine wpAnyH_take (i := 7) (v := ?_) rfl (by kernel_rfl) (by kernel_rfl) (by kernel_rfl) (fun _ _ _ h => nomatch h.1) (Or.inl ⟨by rfl, ?_⟩) (by assumption) ?_
                  rotate_left
                  · (intro wx hSw; go_simp; (try with_reducible rfl))
                  (try simp only [Act.put, List.getElem_toArray, List.getElem_cons_zero, List.getElem_cons_succ, List.setIfInBounds_toArray, List.set_cons_zero, List.set_cons_succ])
                  refine wpAnyH_take (i := 8) (v := ?_) rfl (by kernel_rfl) (by kernel_rfl) (by kernel_rfl) (fun _ _ _ h => nomatch h.1) (Or.inl ⟨by rfl, ?_⟩) (by assumption) ?_
                  rotate_left
                  · (intro wx hSw; go_simp; (try with_reducible rfl))
                  (try simp only [Act.put, List.getElem_toArray, List.getElem_cons_zero, List.getElem_cons_succ, List.setIfInBounds_toArray, List.set_cons_zero, List.set_cons_succ])
                  refine wpAnyH_take (i := 9) (v := ?_) rfl (by kernel_rfl) (by kernel_rfl) (by kernel_rfl) (fun _ _ _ h => nomatch h.1) (Or.inl ⟨by rfl, ?_⟩) (by assumption) ?_
                  rotate_left
                  · (intro wx hSw; have k0 : wx.cell? ⟨g2, 0, none⟩ = some (.string a) := hSw.out.2.2.cell 0; go_simp; (try with_reducible rfl))
                  (try simp only [Act.put, List.getElem_toArray, List.getElem_cons_zero, List.getElem_cons_succ, List.setIfInBounds_toArray, List.set_cons_zero, List.set_cons_succ])
                  refine wpAnyH_take (i := 10) (v := ?_) rfl (by kernel_rfl) (by kernel_rfl) (by kernel_rfl) (fun _ _ _ h => nomatch h.1) (Or.inl ⟨by rfl, ?_⟩) (by assumption) ?_
                  rotate_left
                  · (intro wx hSw; go_simp; (try with_reducible rfl))
                  (try simp only [Act.put, List.getElem_toArray, List.getElem_cons_zero, List.getElem_cons_succ, List.setIfInBounds_toArray, List.set_cons_zero, List.set_cons_succ])
                  refine wpAnyH_take (i := 11) (v := ?_) rfl (by kernel_rfl) (by kernel_rfl) (by kernel_rfl) (fun _ _ _ h => nomatch h.1) (Or.inl ⟨by rfl, ?_⟩) (by assumption) ?_
                  rotate_left
                  · (intro wx hSw; go_simp; (try with_reducible rfl))
                  (try simp only [Act.put, List.getElem_toArray, List.getElem_cons_zero, List.getElem_cons_succ, List.setIfInBounds_toArray, List.set_cons_zero, List.set_cons_succ])
                  refine wpAnyH_take (i := 12) (v := ?_) rfl (by kernel_rfl) (by kernel_rfl) (by kernel_rfl) (fun _ _ _ h => nomatch h.1) (Or.inl ⟨by rfl, ?_⟩) (by assumption) ?_
                  rotate_left
                  · (intro wx hSw; go_simp; (try with_reducible rfl))
                  (try simp only [Act.put, List.getElem_toArray, List.getElem_cons_zero, List.getElem_cons_succ, List.setIfInBounds_toArray, List.set_cons_zero, List.set_cons_succ])
                  refine wpAnyH_take (i := 13) (v := ?_) rfl (by kernel_rfl) (by kernel_rfl) (by kernel_rfl) (fun _ _ _ h => nomatch h.1) (Or.inl ⟨by rfl, ?_⟩) (by assumption) ?_
                  rotate_left
                  · (intro wx hSw; have k0 := hSw.out.1; go_simp; (try with_reducible rfl))
                  (try simp only [Act.put, List.getElem_toArray, List.getElem_cons_zero, List.getElem_cons_succ, List.setIfInBounds_toArray, List.set_cons_zero, List.set_cons_succ])
                  refine wpAnyH_take (i := 14) (v := ?_) rfl (by kernel_rfl) (by kernel_rfl) (by kernel_rfl) (fun _ _ _ h => nomatch h.1) (Or.inl ⟨by rfl, ?_⟩) (by assumption) ?_
                  rotate_left
                  · (intro wx hSw; go_simp; (try with_reducible rfl))
                  (try simp only [Act.put, List.getElem_toArray, List.getElem_cons_zero, List.getElem_cons_succ, List.setIfInBounds_toArray, List.set_cons_zero, List.set_cons_succ])
                  refine wpAnyH_take (i := 15) (v := ?_) rfl (by kernel_rfl) (by kernel_rfl) (by kernel_rfl) (fun _ _ _ h => nomatch h.1) (Or.inl ⟨by rfl, ?_⟩) (by assumption) ?_
                  rotate_left
                  · (intro wx hSw; go_simp; (try with_reducible rfl))
                  (try simp only [Act.put, List.getElem_toArray, List.getElem_cons_zero, List.getElem_cons_succ, List.setIfInBounds_toArray, List.set_cons_zero, List.set_cons_succ])
                  refine wpAnyH_take (i := 16) (v := ?_) rfl (by kernel_rfl) (by kernel_rfl) (by kernel_rfl) (fun _ _ _ h => nomatch h.1) (Or.inl ⟨by rfl, ?_⟩) (by assumption) ?_
                  rotate_left
                  · (intro wx hSw; have k0 := hSw.out.2.1; go_simp; (try with_reducible rfl))
                  (try simp only [Act.put, List.getElem_toArray, List.getElem_cons_zero, List.getElem_cons_succ, List.setIfInBounds_toArray, List.set_cons_zero, List.set_cons_succ])
                  refine wpAnyH_take (i := 17) (v := ?_) rfl (by kernel_rfl) (by kernel_rfl) (by kernel_rfl) (fun _ _ _ h => nomatch h.1) (Or.inl ⟨by rfl, ?_⟩) (by assumption) ?_
                  rotate_left
                  · (intro wx hSw; go_simp; (try with_reducible rfl))
                  (try simp only [Act.put, List.getElem_toArray, List.getElem_cons_zero, List.getElem_cons_succ, List.setIfInBounds_toArray, List.set_cons_zero, List.set_cons_succ])
                  refine wpAnyH_take (i := 18) (v := ?_) rfl (by kernel_rfl) (by kernel_rfl) (by kernel_rfl) (fun _ _ _ h => nomatch h.1) (Or.inl ⟨by rfl, ?_⟩) (by assumption) ?_
                  rotate_left
                  · (intro wx hSw; go_simp; (try with_reducible rfl))
                  (try simp only [Act.put, List.getElem_toArray, List.getElem_cons_zero, List.getElem_cons_succ, List.setIfInBounds_toArray, List.set_cons_zero, List.set_cons_succ])
                  refine wpAnyH_take (i := 19) (v := ?_) rfl (by kernel_rfl) (by kernel_rfl) (by kernel_rfl) (fun _ _ _ h => nomatch h.1) (Or.inl ⟨by rfl, ?_⟩) (by assumption) ?_
                  rotate_left
                  · (intro wx hSw; have k0 : wx.cell? ⟨g2, 1, none⟩ = some (.string y) := hSw.out.2.2.cell 1; go_simp; (try with_reducible rfl))
                  (try simp only [Act.put, List.getElem_toArray, List.getElem_cons_zero, List.getElem_cons_succ, List.setIfInBounds_toArray, List.set_cons_zero, List.set_cons_succ])
                  refine wpAnyH_take (i := 20) (v := ?_) rfl (by kernel_rfl) (by kernel_rfl) (by kernel_rfl) (fun _ _ _ h => nomatch h.1) (Or.inl ⟨by rfl, ?_⟩) (by assumption) ?_
                  rotate_left
                  · (intro wx hSw; go_simp; (try with_reducible rfl))
                  (try simp only [Act.put, List.getElem_toArray, List.getElem_cons_zero, List.getElem_cons_succ, List.setIfInBounds_toArray, List.set_cons_zero, List.set_cons_succ])
                  refine wpAnyH_ready (rs := [21]) (by kernel_rfl) (by simp) ?_
                  refine (AllReadyH.cons rfl (fun K hK => ?_) AllReadyH.nil)
                  go_simp
                  go_at_call 19
                  refine (short_any a y (x.extract 0 lc) lc hsx (by omega) _).mono ?_
                  rintro e wq ⟨rfl, rfl⟩
                  have HN := Lib.hid hHeld.out
                  refine hK.out _ _ HN (fun hH2 => ?_)
                  clear hK K hHeld 
                  have hHeld := hH2
                  clear hH2
                  (try simp only [Act.put, List.getElem_toArray, List.getElem_cons_zero, List.getElem_cons_succ, List.setIfInBounds_toArray, List.set_cons_zero, List.set_cons_succ])
                  refine wpAnyH_done (by kernel_rfl) ?_ _
                  exact ⟨rfl, (), by (simp only [puts, Act.put, List.setIfInBounds_toArray, List.set_cons_zero, List.set_cons_succ]), rfl⟩
                case hq =>
                rintro _ _ rfl
                (simp only [puts, Act.put, List.setIfInBounds_toArray, List.set_cons_zero, List.set_cons_succ])
                generalize wr.drew = Wd at HMd HBd ⊢
                obtain ⟨bb, hbb⟩ : ∃ bb, preB y lc (x.extract 0 lc) = bb := ⟨_, rfl⟩
                have Hbb := Lib.hid hbb
                rw [hbb]
                clear hbb HSd k6 HM hb
                cases bb with
                | true =>
                  have hng : Hid (¬ good) := Lib.hid (fun hg => by
                    rcases Nat.lt_or_ge (i + 1) j with k | k
                    · exact hjg.out k hg
                    · obtain rfl : j = i + 1 := by omega
                      have h1 := hgood.out hg hnw i x y Hlx.out Hly.out
                      have h2 := Hbb.out
                      rw [hlg.out hg] at h2
                      rw [h1] at h2; cases h2)
                  by_cases hjr : (r : Int) < (j : Int)
                  · go_wp2_with fail
                    go_roundw
                    case rel => exact ⟨j, j + 1, true, rfl, rfl, by go_num, by omega, by omega, by omega, Lib.hid (fun _ => hng.out), Lib.hid (fun _ => hng.out), HMd, HBd.out⟩
                    case measure => simp [intOf]; omega
                  · go_wp2_with fail
                    go_roundw
                    case rel => exact ⟨r, j + 1, true, rfl, rfl, by go_num, by omega, by omega, by omega, Lib.hid (fun _ => hng.out), Lib.hid (fun _ => hng.out), HMd, HBd.out⟩
                    case measure => simp [intOf]; omega
                | false =>
                  cases ext with
                  | true =>
                    go_wp2_with fail
                    go_roundw
                    case rel => exact ⟨lc + 1, r, x.extract 0 lc, true, by go_num, rfl, rfl, rfl, by omega, by omega, hr, by omega, Lib.hid (fun g => absurd g (hext.out rfl)), Lib.hid (fun h => by cases h), HMd, HBd.out⟩
                    case measure => simp [extM, intOf]; omega
                  | false =>
                    go_wp2_with fail
                    go_roundw
                    case rel => exact ⟨lc, r, x.extract 0 lc, false, rfl, rfl, rfl, rfl, by omega, by omega, hr, by omega, hlg, Lib.hid (fun _ g => by rw [hlg.out g]; exact (hpart.out hnw x).symm), HMd, HBd.out⟩
                    case measure => (simp [extM, intOf]; omega)
              · have HB9 := Lib.hid hb
                clear hb
                cases ext with
                | true =>
                  go_wp2_with fail
                  go_roundw
                  case rel => exact ⟨lc + 1, r, x.extract 0 lc, true, by go_num, rfl, rfl, rfl, by omega, by omega, hr, by omega, Lib.hid (fun g => absurd g (hext.out rfl)), Lib.hid (fun h => by cases h), HM, HB9.out⟩
                  case measure => simp [extM, intOf]; omega
                | false =>
                  go_wp2_with fail
                  go_roundw
                  case rel => exact ⟨lc, r, x.extract 0 lc, false, rfl, rfl, rfl, rfl, by omega, by omega, hr, by omega, hlg, Lib.hid (fun _ g => by rw [hlg.out g]; exact (hpart.out hnw x).symm), HM, HB9.out⟩
                  case measure => (simp [extM, intOf]; omega)
    · obtain rfl : i = l.length := by omega
      have hS9 : SetAt wr G (.slice ao l.length cap) 1 := HS1.out.below HB.out
      have y0 : wr.cell? ⟨G, 0, none⟩ = some (.int .i32 0) := hS9.cell 0
      have y2 : wr.cell? ⟨G, 0 + 2, none⟩ = some (.int .u32 0) := hS9.cell 2
      have y4 : wr.cell? ⟨G, 0 + 4, none⟩ = some (.int .i32 1) := hS9.cell 4
      have q4 : wr.frozen? ⟨G, 0 + 4, none⟩ = false := hS9.free 4
      have hGl : G < w1.heap.size := HS1.out.lt
      go_wp2_with fail
      refine leaves_cons (f := 17) (args := #[.pointer (some ⟨G, 0, none⟩)]) (by simp) (by simp [go_sem]) ?_
      refine (runlock_deferred rwRLib G 0 1 _ _ .returning _ y0 y2 y4 q4 (by decide +kernel)).mono ?_
      rintro e u' w'' ⟨rfl, rfl, rfl⟩
      refine ⟨_, results_tmp rfl _ _ _, ?_, ⟨D, ?_, HCI.out⟩, fun C hC => ?_⟩
      · rw [HZ1.out]; rfl
      · obtain ⟨es, clock, h1, h2⟩ := HM.out
        rw [HZ1.out]
        refine ⟨es, clock, ?_, h2⟩
        rw [Below.heap_setCell _ _ _ _ (by show w1.heap.size ≠ G; omega)]
        exact h1
      · exact ((HB1.out C hC).trans (HB.out.mono (by omega))).setCell (p := ⟨G, 0 + 4, none⟩) hC _
end Go.Proofs.Ytljopdkonahfhaa
