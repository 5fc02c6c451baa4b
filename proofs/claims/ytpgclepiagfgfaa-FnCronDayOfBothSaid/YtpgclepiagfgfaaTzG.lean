/- Time.In, impl.moment, impl.location and impl.CronDayMatches over zones. -/
import Derived.Test.YtpgclepiagfgfaaTzF
namespace Go.Proofs.Ytpgclepiagfgfaa
open Go.RowKit
set_option linter.unusedVariables false
set_option linter.unusedSimpArgs false

/-- A zone as impl takes it. -/
def ZoneAt (w : World) (zv : Value) (offs : List Int) (dsts : List Bool) (whens idxs : List Int) : Prop :=
  ∃ vo vd vw vi, zv = .agg #[vo, vd, vw, vi] ∧ SlOf RIn 1 w vo offs ∧ SlOf RBo 1 w vd dsts ∧ SlOf RIn 1 w vw whens ∧ SlOf RIn 1 w vi idxs
theorem ZoneAt.below {w w' : World} {zv : Value} {offs : List Int} {dsts : List Bool} {whens idxs : List Int} (h : ZoneAt w zv offs dsts whens idxs) (hb : Below w.heap.size w w') : ZoneAt w' zv offs dsts whens idxs := by
  obtain ⟨vo, vd, vw, vi, e, h1, h2, h3, h4⟩ := h
  exact ⟨vo, vd, vw, vi, e, h1.below RIn.mono hb, h2.below RBo.mono hb, h3.below RIn.mono hb, h4.below RIn.mono hb⟩
/-- A zone that the statements speak of: none at all, or zones and transitions. -/
def ZOk (offs : List Int) (dsts : List Bool) (whens idxs : List Int) : Prop :=
  (offs = [] ∧ dsts = [] ∧ whens = [] ∧ idxs = []) ∨
  (0 < offs.length ∧ offs.length ≤ 64 ∧ dsts.length = offs.length ∧ 0 < whens.length ∧ whens.length ≤ 4096 ∧ idxs.length = whens.length ∧ whens[0]? = some (-9223372036854775808) ∧
   (∀ x ∈ offs, -86400 ≤ x ∧ x ≤ 86400) ∧ (∀ x ∈ idxs, 0 ≤ x ∧ x < offs.length) ∧ (∀ (i : Nat) (a b : Int), whens[i]? = some a → whens[i + 1]? = some b → a < b))
theorem asc_le {l : List Int} (h : ∀ (i : Nat) (a b : Int), l[i]? = some a → l[i + 1]? = some b → a < b) : ∀ (d i : Nat) (a b : Int), l[i]? = some a → l[i + d]? = some b → a ≤ b
  | 0, i, a, b, ha, hb => by rw [Nat.add_zero, ha] at hb; have := Option.some.inj hb; omega
  | d + 1, i, a, b, ha, hb => by
    have hlt := (List.getElem?_eq_some_iff.1 hb).1
    obtain ⟨c, hc⟩ : ∃ c, l[i + d]? = some c := ⟨l[i + d]'(by omega), List.getElem?_eq_getElem (by omega)⟩
    have h1 := asc_le h d i a c ha hc
    have h2 := h (i + d) c b hc (by rw [show i + d + 1 = i + (d + 1) by omega]; exact hb)
    omega
theorem zip_at {α β : Type} {l : List α} {m : List β} {i : Nat} {x : α × β} (h : (l.zip m)[i]? = some x) : l[i]? = some x.1 ∧ m[i]? = some x.2 := by
  rw [List.getElem?_zip_eq_some] at h; exact h
theorem ZOk.tx {offs : List Int} {dsts : List Bool} {whens idxs : List Int} (h : ZOk offs dsts whens idxs) (hn : 0 < offs.length) : TxOk (offs.zip dsts) (whens.zip idxs) := by
  rcases h with ⟨rfl, _⟩ | ⟨h0, h1, h2, h3, h4, h5, h6, h7, h8, h9⟩
  · simp at hn
  · refine ⟨by rw [List.length_zip]; omega, by rw [List.length_zip]; omega, fun i j a b hij ha hb => ?_, fun i a ha => ?_⟩
    · obtain ⟨d, rfl⟩ : ∃ d, j = i + d := ⟨j - i, by omega⟩
      exact asc_le h9 d i a.1 b.1 (zip_at ha).1 (zip_at hb).1
    · have := h8 a.2 (List.mem_of_getElem? (zip_at ha).2)
      rw [List.length_zip, h2, Nat.min_self]; exact this
theorem OffIs.unique {zs : List (Int × Bool)} {ts : List (Int × Int)} {sec a b : Int} (h : OffIs zs ts sec a) (k : OffIs zs ts sec b) : b = a := by
  obtain ⟨i, wn, ix, d, h1, h2, h3, h4⟩ := h
  obtain ⟨j, wm, iy, e, k1, k2, k3, k4⟩ := k
  have hij : i = j := by
    rcases Nat.lt_trichotomy i j with c | c | c
    · have := h3 j _ c k1; simp at this; omega
    · exact c
    · have := k3 i _ c h1; simp at this; omega
  subst hij
  rw [h1] at k1
  have e1 := Option.some.inj k1
  injection e1 with e2 e3
  subst e3
  rw [h4] at k4
  have e4 := Option.some.inj k4
  injection e4 with e5 e6
  exact e5.symm
set_option maxHeartbeats 1000000 in
theorem setLocL_any (g ns u : Nat) (ext : Int) (hn : ns < 1000000000) (w : World) (h : TimeAt w g ns ext (.pointer none)) (hu : w.cell? ⟨u, 0, none⟩ = some (.bool false)) :
    Calls Try.prog 70 #[.pointer (some ⟨g, 0, none⟩), .pointer (some ⟨u, 0, none⟩)] w fun e w' => e = .returned (.tuple #[]) ∧ w' = w.setCell ⟨g, 2, none⟩ (.pointer (some ⟨u, 0, none⟩)) := by
  have c2 : w.cell? ⟨g, 2, none⟩ = some (.pointer none) := h.cell 2
  have f2 := h.free 2
  have HH := Lib.hid h
  clear h
  go_enter Try.func70, Try.ntmps70
  go_wp2_with fail
  refine (stripMonoL_any g ns ext _ hn _ HH.out).mono ?_
  rintro e w1 ⟨rfl, hq⟩
  subst hq
  go_wp2_with fail
  go_end0
  exact ⟨rfl, rfl⟩

set_option maxHeartbeats 2000000 in
theorem inL_any {cs : Array Value} (ns : Nat) (ext : Int) (hn : ns < 1000000000) (u : Nat) (w : World) (hu : Hid (RowAt w u 124 cs)) (h0 : cs[0]? = some (.bool false)) :
    Calls Try.prog 53 #[.agg #[.int .u64 ns, .int .i64 ext, .pointer none], .pointer (some ⟨u, 0, none⟩)] w fun e w' => e = .returned (.agg #[.int .u64 ns, .int .i64 ext, .pointer (some ⟨u, 0, none⟩)]) ∧ Below w.heap.size w w' := by
  have lt := hu.out.lt
  go_enter Try.func53, Try.ntmps53
  go_wp2_with fail
  have hT := RowAt.alloc (rowAt_last w 68 #[.int .u64 ns, .int .i64 ext, .pointer none] _ rfl) (.cells #[.int .u64 0, .int .i64 0, .pointer none] 68)
  have hu2 := (hu.out.alloc (.cells #[.int .u64 ns, .int .i64 ext, .pointer none] 68)).alloc (.cells #[.int .u64 0, .int .i64 0, .pointer none] 68)
  refine (setLocL_any w.heap.size ns u ext hn _ hT ((hu2.cell 0).trans h0)).mono ?_
  rintro e w1 ⟨rfl, rfl⟩
  clear hT hu2 h0
  go_wp2_with fail
  refine bodyPost_ret (v := .agg #[.int .u64 ns, .int .i64 ext, .pointer (some ⟨u, 0, none⟩)]) (by simp [results, Try.results53, go_sem]) rfl ⟨rfl, ?_⟩
  exact (by repeat (first | (with_reducible assumption) | (with_reducible exact Below.refl _ _) | (with_reducible refine Below.setCell ?_ (by first | omega | (simp <;> omega)) _) | refine below_drewN ?_ _ | refine Below.drew ?_ | refine Below.alloc ?_ (by first | omega | (simp <;> omega)) _))

set_option maxHeartbeats 2000000 in
theorem momentL_any {cs : Array Value} (sec : Int) (ns u : Nat) (hn : ns < 1000000000) (h0 : -62135596800 ≤ sec) (h1 : sec < 300000000000) (w : World) (hu : Hid (RowAt w u 124 cs)) (hc : Hid (cs[0]? = some (.bool false))) :
    Calls Try.prog 34 #[.agg #[.int .i64 sec, .int .i64 ns], .pointer (some ⟨u, 0, none⟩)] w fun e w' => e = .returned (.agg #[.int .u64 ns, .int .i64 (sec + 62135596800), .pointer (some ⟨u, 0, none⟩)]) ∧ Below w.heap.size w w' := by
  have lt := hu.out.lt
  go_enter Try.func34, Try.ntmps34
  go_wp2_with fail
  refine (unix_any ns sec hn (by omega) (by omega) _).mono ?_
  rintro e w1 ⟨rfl, hb⟩
  have R1 : RowAt w1 (w.heap.size + 1) 68 #[.int .u64 0, .int .i64 0, .pointer none] := RowAt.below (rowAt_last (w.alloc (.cells #[.int .i64 sec, .int .i64 ns] 24)) _ _ _ (by simp)) hb
  have hu1 : Hid (RowAt w1 u 124 cs) := Lib.hid (RowAt.below ((hu.out.alloc _).alloc _) hb)
  have b1 : Below w.heap.size w w1 := Below.trans (by repeat (first | (with_reducible assumption) | (with_reducible exact Below.refl _ _) | (with_reducible refine Below.setCell ?_ (by first | omega | (simp <;> omega)) _) | refine below_drewN ?_ _ | refine Below.drew ?_ | refine Below.alloc ?_ (by first | omega | (simp <;> omega)) _)) (hb.mono (by simp; omega))
  clear hb
  go_wp2_with fail
  refine (inL_any ns (sec + 62135596800) hn u _ hu1 hc.out).mono ?_
  rintro e w2 ⟨rfl, hb⟩
  have R2 : RowAt w2 (w.heap.size + 1) 68 #[.int .u64 0, .int .i64 0, .pointer none] := R1.below hb
  have b2 : Below w.heap.size w w2 := b1.trans (hb.mono b1.size)
  clear hb
  have z0 : w2.cell? ⟨w.heap.size + 1, 0, none⟩ = some (.int .u64 0) := R2.cell 0
  have z1 : w2.cell? ⟨w.heap.size + 1, 1, none⟩ = some (.int .i64 0) := R2.cell 1
  have z2 : w2.cell? ⟨w.heap.size + 1, 2, none⟩ = some (.pointer none) := R2.cell 2
  have f0 := R2.free 0
  have f1 := R2.free 1
  have f2 := R2.free 2
  have lt2 := R2.lt
  go_wp2_with fail
  refine bodyPost_ret (v := .agg #[.int .u64 ns, .int .i64 (sec + 62135596800), .pointer (some ⟨u, 0, none⟩)]) (by simp [results, Try.results34, go_sem, z0, z1, z2, f0, f1, f2]) rfl ⟨rfl, ?_⟩
  exact (by repeat (first | (with_reducible assumption) | (with_reducible exact Below.refl _ _) | (with_reducible refine Below.setCell ?_ (by first | omega | (simp <;> omega)) _) | refine below_drewN ?_ _ | refine Below.drew ?_ | refine Below.alloc ?_ (by first | omega | (simp <;> omega)) _))

/-- The location of a zone: UTC, or one with its zones and transitions. -/
def LocPost (offs : List Int) (dsts : List Bool) (whens idxs : List Int) (w : World) (e : Ending) (w' : World) : Prop :=
  ∃ u, e = .returned (.pointer (some ⟨u, 0, none⟩)) ∧ (offs = [] → UtcAt w' u) ∧ (0 < offs.length → LocAt w' u (offs.zip dsts) (whens.zip idxs)) ∧ Below w.heap.size w w'
set_option maxRecDepth 100000 in
set_option maxHeartbeats 4000000 in
theorem locationZ_any (zv : Value) (offs : List Int) (dsts : List Bool) (whens idxs : List Int) (hok : Hid (ZOk offs dsts whens idxs)) (w : World) (hz : Hid (ZoneAt w zv offs dsts whens idxs)) :
    Calls Try.prog 35 #[zv] w fun e w' => LocPost offs dsts whens idxs w e w' := by
  obtain ⟨vo, vd, vw, vi, rfl, s1, s2, s3, s4⟩ := hz.out
  have ba : Below w.heap.size w (w.alloc (.cells #[vo, vd, vw, vi] 29)) := (Below.refl _ _).alloc (Nat.le_refl _) _
  have S1 := Lib.hid (s1.below RIn.mono ba)
  have S2 := Lib.hid (s2.below RBo.mono ba)
  have S3 := Lib.hid (s3.below RIn.mono ba)
  have S4 := Lib.hid (s4.below RIn.mono ba)
  obtain ⟨ao, co, rfl⟩ := s1.len
  obtain ⟨ad, cd, rfl⟩ := s2.len
  obtain ⟨aw, cw, rfl⟩ := s3.len
  obtain ⟨ai, ci, rfl⟩ := s4.len
  clear s1 s2 s3 s4 hz
  by_cases h0 : offs.length = 0
  · have he : ((offs.length : Int) == 0) = true := by simp [h0]
    have hnil : offs = [] := List.length_eq_zero_iff.1 h0
    go_enter Try.func35, Try.ntmps35
    go_wp2_with fail
    refine (utc_any _).mono ?_
    rintro e w1 ⟨rfl, rfl⟩
    go_wp2_with fail
    go_ret
    exact ⟨_, rfl, fun _ => rowAt_last _ _ _ _ (by simp), fun h => by omega, (by repeat (first | (with_reducible assumption) | (with_reducible exact Below.refl _ _) | (with_reducible refine Below.setCell ?_ (by first | omega | (simp <;> omega)) _) | refine below_drewN ?_ _ | refine Below.drew ?_ | refine Below.alloc ?_ (by first | omega | (simp <;> omega)) _))⟩
  · have he : ((offs.length : Int) == 0) = false := by simp only [beq_eq_false_iff_ne]; omega
    have hOk := hok.out
    rcases hOk with ⟨rfl, _⟩ | ⟨k0, k1, k2, k3, k4, k5, k6, k7, k8, k9⟩
    · simp at h0
    · have HIX : Hid (∀ x ∈ idxs, 0 ≤ x ∧ x < 256) := Lib.hid (fun x hx => by have := k8 x hx; omega)
      have hs : (w.alloc (.cells #[.slice ao offs.length co, .slice ad dsts.length cd, .slice aw whens.length cw, .slice ai idxs.length ci] 29)).heap.size = w.heap.size + 1 := by simp
      have HZ := Lib.hid (zzZone_any offs dsts whens idxs _ _ _ _ k2 k5 (by omega) (by omega) HIX _ S1 S2 S3 S4)
      clear k1 k2 k3 k4 k5 k6 k7 k8 k9 HIX S1 S2 S3 S4 hok
      go_enter Try.func35, Try.ntmps35
      go_wp2_with fail
      refine HZ.out.mono ?_
      rintro e w1 ⟨rfl, hloc, hb⟩
      have b1 := ba.trans (hb.mono ba.size)
      rw [hs] at hloc
      have HL := Lib.hid hloc
      clear hloc hb HZ
      go_wp2_with fail
      go_ret
      exact ⟨_, rfl, fun h => by rw [h] at k0; simp at k0, fun _ => HL.out, b1⟩

end Go.Proofs.Ytpgclepiagfgfaa
