/- Times on the clocks of a zone. -/
import Derived.Test.YtpgclepiagfgfaaTzA
import Derived.Test.YtpgclepiagfgfaaTnI
namespace Go.Proofs.Ytpgclepiagfgfaa
open Go.RowKit
set_option linter.unusedVariables false
set_option linter.unusedSimpArgs false

/-- A time in memory; its location is nil or a pointer. -/
abbrev TimeAt (w : World) (g : Nat) (ns : Nat) (ext : Int) (lv : Value) : Prop := RowAt w g 68 #[.int .u64 ns, .int .i64 ext, lv]
set_option maxHeartbeats 400000 in
theorem secL_any (g ns : Nat) (ext : Int) (lv : Value) (hn : ns < 1000000000) (w : World) (h : TimeAt w g ns ext lv) :
    Calls Try.prog 93 #[.pointer (some ⟨g, 0, none⟩)] w fun e w' => e = .returned (.int .i64 ext) ∧ w = w' := by
  have c0 : w.cell? ⟨g, 0, none⟩ = some (.int .u64 ns) := h.cell 0
  have c1 : w.cell? ⟨g, 1, none⟩ = some (.int .i64 ext) := h.cell 1
  have A := and_hi ns (by omega)
  clear h
  go_enter Try.func93, Try.ntmps93
  go_wp2_with fail
  go_ret
  exact ⟨rfl, rfl⟩

set_option maxHeartbeats 400000 in
theorem unixSecL_any (g ns : Nat) (ext : Int) (lv : Value) (hn : ns < 1000000000) (he : 0 ≤ ext) (he2 : ext < 1000000000000) (w : World) (h : TimeAt w g ns ext lv) :
    Calls Try.prog 88 #[.pointer (some ⟨g, 0, none⟩)] w fun e w' => e = .returned (.int .i64 (ext - 62135596800)) ∧ w = w' := by
  go_enter Try.func88, Try.ntmps88
  go_wp2_with (refine (secL_any g ns ext lv hn w h).mono ?_; rintro e w' ⟨rfl, rfl⟩)
  go_ret
  exact ⟨ret_i64 (by omega), rfl⟩

set_option maxHeartbeats 400000 in
theorem stripMonoL_any (g ns : Nat) (ext : Int) (lv : Value) (hn : ns < 1000000000) (w : World) (h : TimeAt w g ns ext lv) :
    Calls Try.prog 87 #[.pointer (some ⟨g, 0, none⟩)] w fun e w' => e = .returned (.tuple #[]) ∧ w = w' := by
  have c0 : w.cell? ⟨g, 0, none⟩ = some (.int .u64 ns) := h.cell 0
  have c1 : w.cell? ⟨g, 1, none⟩ = some (.int .i64 ext) := h.cell 1
  have A := and_hi ns (by omega)
  clear h
  go_enter Try.func87, Try.ntmps87
  go_wp2_with fail
  go_end0
  exact ⟨rfl, rfl⟩

/-- What absSec answers for a time with this location, in all later worlds: the seconds that the clocks show. -/
def AbsIs (w0 : World) (ns : Nat) (ext : Int) (lv : Value) (loc : Int) : Prop := ∀ W, Below w0.heap.size w0 W → Calls Try.prog 82 #[.agg #[.int .u64 ns, .int .i64 ext, lv]] W fun e w' => e = .returned (.int .u64 (loc + 9223371966606163200)) ∧ Below W.heap.size W w'
theorem AbsIs.later {w0 w1 : World} {ns : Nat} {ext : Int} {lv : Value} {loc : Int} (h : AbsIs w0 ns ext lv loc) (hb : Below w0.heap.size w0 w1) : AbsIs w1 ns ext lv loc := fun W hW => h W (hb.trans (hW.mono hb.size))
theorem absUtc (w0 : World) (ns : Nat) (ext : Int) (hn : ns < 1000000000) (he : 0 ≤ ext) (he2 : ext < 1000000000000) : AbsIs w0 ns ext (.pointer none) ext := fun W _ => absSec_any ns ext hn he he2 W
set_option maxRecDepth 100000 in
set_option maxHeartbeats 4000000 in
theorem absZone_one (zs : List (Int × Bool)) (ts : List (Int × Int)) (u ns : Nat) (ext off : Int) (hns : ns < 1000000000) (he : 0 ≤ ext) (he2 : ext < 600000000000) (ho : -86400 ≤ off ∧ off ≤ 86400) (hn : 0 < ts.length) (hok : Hid (TxOk zs ts)) (hsec : Hid (∀ t : Int × Int, ts[0]? = some t → t.1 ≤ ext - 62135596800)) (hoff : Hid (∀ o, OffIs zs ts (ext - 62135596800) o → o = off)) (w : World) (hloc : Hid (LocAt w u zs ts)) :
    Calls Try.prog 82 #[.agg #[.int .u64 ns, .int .i64 ext, .pointer (some ⟨u, 0, none⟩)]] w fun e w' => e = .returned (.int .u64 (ext + off + 9223371966606163200)) ∧ Below w.heap.size w w' := by
  have hL := hloc.out
  obtain ⟨vz, vt, hr, -, -⟩ := hL
  have lt := hr.lt
  have HLr := Lib.hid hr
  clear hr
  go_enter Try.func82, Try.ntmps82
  go_wp2_with fail
  have hT : TimeAt (w.alloc (.cells #[.int .u64 ns, .int .i64 ext, .pointer (some ⟨u, 0, none⟩)] 68)) w.heap.size ns ext (.pointer (some ⟨u, 0, none⟩)) := rowAt_last w _ _ _ rfl
  refine (unixSecL_any w.heap.size ns ext _ hns he (by omega) _ hT).mono ?_
  rintro e w1 ⟨rfl, hq⟩
  subst hq
  have b1 : Below w.heap.size w (w.alloc (.cells #[.int .u64 ns, .int .i64 ext, .pointer (some ⟨u, 0, none⟩)] 68)) := (Below.refl _ _).alloc (Nat.le_refl _) _
  have hl2 := Lib.hid (hloc.out.below b1)
  have hr2 := HLr.out.below b1
  generalize w.alloc (.cells #[.int .u64 ns, .int .i64 ext, .pointer (some ⟨u, 0, none⟩)] 68) = w2 at hl2 hr2 b1 ⊢
  have c0 : w2.cell? ⟨u, 0, none⟩ = some (.bool false) := hr2.cell 0
  have c7 : w2.cell? ⟨u, 7, none⟩ = some (.pointer none) := hr2.cell 7
  clear hr2 hT HLr hloc
  go_wp2_with fail
  refine (lookupZ_any zs ts u (ext - 62135596800) off hn hok hsec hoff _ hl2).mono ?_
  rintro e w3 ⟨s, st, en, d, rfl, hb3⟩
  have b3 := b1.trans (hb3.mono b1.size)
  clear hb3 hl2 c0 c7
  go_wp2_with fail
  go_ret
  exact ⟨ret_u64 (by rw [IntKind.wrap_u64]; unfold wrap64; omega), b3⟩

end Go.Proofs.Ytpgclepiagfgfaa
