/- impl.SetCodes over digests of one algorithm and one length. -/
import Derived.Test.YtljopdkonahfhaaScC
namespace Go.Proofs.Ytljopdkonahfhaa
open Go.RowKit Go.RwLone Go.Maps Go.WideMaps
set_option linter.unusedVariables false
set_option linter.unusedSimpArgs false

/-- 'm[k]' at elements that are texts. -/
theorem wpList_lookup_own_str {H : Type} {P : Program} (w : World) {ops : Array Oper} {rest : List Oper} {o : Oper} {a : Act} {Q : Exit → Act → World → Prop}
    (hg : o.guard = none) (m x : Operand) (t : TypeId) (hop : o.op = Op.lookup t m x false)
    (k e : TypeId) (K : Keyed P k) (ht : P.underlying t = some (.map k e)) (he : P.underlying e = some .string) (hz : (zeroValue e).run P w = .ok (.string ByteArray.empty) w) (b n : Nat) (D : DataW H)
    (hm : a.eval m = .map (some b)) (hown : w.ownsMap P k (plainElem P e) b n D) (key : Value) (kl : Lit) (hx : a.eval x = key) (hkey : keyOf P k key = some kl)
    (hK : ∀ s : ByteArray, D.atKey kl (.lit (.string ByteArray.empty.data.toList)) = .lit (.string s.data.toList) → s.size ≤ maxLen → wpList P ops Q rest (a.put o.dst (.string s)) w) :
    wpList P ops Q (o :: rest) a w := by
  refine wpList_plain hg fun K' hK' => ?_
  obtain ⟨v, ps, hrun, hv⟩ := hown.lookup K ht hz (plainElem_string he (by decide)) hkey
  obtain ⟨s, rfl, hs, hsz⟩ := plainElem_string_inv he hv
  simp only [Prod.mk.injEq] at hs
  unfold Oper.wp
  simp [execOp, hop, hm, hx, hrun, Result.andThen]
  exact hK' _ _ (hK s hs.1 hsz)

theorem infoSt : (Try.prog.info? TSt).map (fun i => (i.zero, i.size, i.bytes)) = some (some (.string ByteArray.empty), 1, 16) := by kernel_rfl
theorem zeroSt (w : World) : (zeroValue TSt).run Try.prog w = .ok (.string ByteArray.empty) w := by kernel_rfl
theorem strD_inj {s t : ByteArray} (h : strD s = strD t) : s = t := by
  unfold strD at h
  injection h with h
  injection h with h
  exact ByteArray.ext (by simpa using h)

def CodesPost (l : List ByteArray) (good : Prop) (want : ByteArray → ByteArray) (w : World) (e : Ending) (w' : World) : Prop :=
  ∃ (u : Value) (codes : List ByteArray), e = .returned u ∧ SlOf RStr 1 w' u codes ∧ codes.length = l.length ∧ (good → ∀ (i : Nat) (x : ByteArray), l[i]? = some x → codes[i]? = some (want x)) ∧ Below w.heap.size w w'

set_option maxRecDepth 100000 in
set_option maxHeartbeats 8000000 in
theorem setCodes_any (a : ByteArray) (l : List ByteArray) (v : Value) (L lenN : Nat) (hL : Hid (∀ x ∈ l, x.size = L)) (hL2 : L ≤ 200) (hlen : lenN ≤ 300) (hll : l.length ≤ 40) (ha : a.size ≤ 50)
    (good : Prop) (want : ByteArray → ByteArray) (hwhole : Hid (L ≤ lenN → ∀ x, want x = dgOf a x)) (hpart : Hid (¬ L ≤ lenN → ∀ x, want x = x.extract 0 lenN))
    (hgood : Hid (good → ¬ L ≤ lenN → ∀ i x y, l[i]? = some x → l[i + 1]? = some y → preB y lenN (x.extract 0 lenN) = false))
    (w : World) (hs : Hid (SlOf RStr 1 w v l)) :
    Calls Try.prog 9 #[.string a, v, .int .i64 lenN] w (CodesPost l good want w) := by
  have hs2 := hs
  obtain ⟨ao, cap, rfl, hc⟩ := hs.out
  have HC := Lib.hid (fun k x h => strAt hc k x h)
  clear hc hs
  obtain ⟨i0, hi, hz0, hz1, hz2⟩ := info_parts infoSt
  go_enter Try.func9, Try.ntmps9
  go_wp2_with fail
  refine (zzSet_any a l _ (by omega) (by omega) (Lib.hid (fun x hx => by have := hL.out x hx; omega)) _ hs2).mono ?_
  rintro e w1 ⟨G, u, rfl, hG, hS, hO, hb1⟩
  have HS := Lib.hid hS
  have HO := Lib.hid hO
  have HB1 := Lib.hid hb1
  clear hS hO hb1 hs2
  go_wp2_with fail
  refine (table_any a l L lenN hL hL2 hlen hll ha good want hwhole hpart hgood u G _ _ HS HO).mono ?_
  rintro e w2 ⟨rfl, ⟨D, hown, hCI⟩, hb2⟩
  have HB2 : Hid (Below w.heap.size w w2) := Lib.hid (HB1.out.trans (hb2 _ hG))
  have hM1 : w1.heap.size < w2.heap.size := hown.lt
  have hwM : w.heap.size ≤ w1.heap.size := HB1.out.size
  have HM := Lib.hid hown
  have HCI := Lib.hid hCI
  clear hown hCI hb2 HB1 HS HO
  obtain ⟨M, hM⟩ : ∃ M, M = w1.heap.size := ⟨_, rfl⟩
  rw [← hM] at HM hM1 hwM ⊢
  clear hM
  go_wp2_with fail
  go_loopw [8, 18] (fun tc tk wr => ∃ (k : Nat) (codes : List ByteArray), k ≤ l.length ∧ tk = .int .i64 k ∧ codes.length = k ∧ Hid (good → ∀ i x, i < k → l[i]? = some x → codes[i]? = some (want x)) ∧ OwnOf RStr 1 w2.heap.size TSt wr tc codes ∧ wr.ownsMap Try.prog TDg (plainElem Try.prog TSt) M l.length D ∧ Below w2.heap.size w2 wr) (fun _ tk _ => l.length - (intOf tk).toNat)
  case atStart => exact ⟨0, [], Nat.zero_le _, rfl, rfl, Lib.hid (fun _ i x h => by omega), OwnOf.nil _ _ _ _ _, HM.out, Below.refl _ _⟩
  case round =>
    clear HM
    obtain ⟨k, codes, hk, rfl, hcl, hcg, hO, hown, hb⟩ := hrel
    by_cases hkL : k < l.length
    · obtain ⟨x, hlx⟩ : ∃ x, l[k]? = some x := ⟨l[k], List.getElem?_eq_getElem hkL⟩
      obtain ⟨ab, aoff, rfl, k00⟩ := HC.out k x hlx
      have k0 := cellBS (HB2.out.trans (hb.mono HB2.out.size)) k00
      have hxL := hL.out x (List.mem_of_getElem? hlx)
      have hkey : keyOf Try.prog TDg (.string (a ++ ⟨#[58]⟩ ++ x)) = some (keyL a x) := keyOf_string_mk Try.underlying41 (by have := dgOf_size a x; unfold dgOf at this; rw [this]; unfold maxLen; omega)
      have Hlx := Lib.hid hlx
      have HO := Lib.hid hO
      have HB := Lib.hid hb
      clear hlx k00 hO hb
      go_wp2_with (first | (at_lookup; refine wpList_lookup_own_str _ rfl _ _ TMp rfl TDg TSt lawDg Try.underlying37 Try.underlying9 (zeroSt _) M l.length D rfl hown _ _ rfl hkey ?_) | go_in)
      intro s hat hsz
      have hsw : good → s = want x := fun g => by
        obtain ⟨s2, h1, h2⟩ := HCI.out.2 k x hkL Hlx.out
        have h3 : strD s = strD s2 := by rw [← h1]; exact hat.symm
        rw [strD_inj h3]; exact h2 g
      have HSW := Lib.hid hsw
      clear hat hsw hkey
      have b2 : Below wr.heap.size wr (wr.alloc (.cells #[.string s] TSt)) := (Below.refl _ _).alloc (Nat.le_refl _) _
      obtain ⟨cs, hcl2, hcz, hown2, hR⟩ := HO.out.below (RStr.mono) b2
      rw [hcl] at hown2 hcl2
      have hm2 := hown.alloc (.cells #[.string s] TSt)
      go_wp2_with (at_builtin; refine stop_here ?_)
      unfold Stop
      refine wpList_append_own _ rfl _ _ 25 rfl _ TSt i0 (.string ByteArray.empty) 1 16 Try.underlying25 hi hz0 hz1 hz2 rfl (by decide) _ _ _ rfl hown2 ⟨wr.heap.size, 0, none⟩ 1 1 [.string s] rfl rfl (cells_new _ #[.string s] _) ?_ ?_ ?_ ?_ ?_
      · intro u hu; simp at hu; subst hu; rfl
      · unfold maxLen; omega
      · omega
      · exact Nat.le_trans HB.out.size b2.size
      intro v' w3 hown3 hgrow _
      have hp := OwnOf.push (RStr.stab (e := TSt)) (x := s) hcl hcl2 hcz hown2 hR hgrow hown3 rfl rfl
      have hm3 := hm2.kept hgrow (by
        intro h
        have := (hown2.lt M h.symm).1
        omega)
      have hb3 := Below.grown (HB.out.trans (b2.mono HB.out.size)) hgrow (by have := HB.out.size; have := b2.size; omega) (fun k hk => (hown2.lt k hk).1)
      have HG : Hid (good → ∀ i y, i < k + 1 → l[i]? = some y → (codes ++ [s])[i]? = some (want y)) := Lib.hid (fun g i y hi hy => by
        by_cases e : i = k
        · subst e
          rw [Hlx.out] at hy
          rw [List.getElem?_append_right (by omega), hcl, Nat.sub_self]
          simp
          rw [HSW.out g, Option.some.inj hy]
        · rw [List.getElem?_append_left (by omega)]
          exact hcg.out g i y (by omega) hy)
      have HP := Lib.hid hp
      have HM3 := Lib.hid hm3
      clear hgrow hown3 hown2 hR hcz hcl2 hp hm3 hm2 hown HO b2 k0
      go_wp2_with fail
      go_roundw
      case rel => exact ⟨k + 1, codes ++ [s], by omega, by go_num, by simp [hcl], HG, HP.out, HM3.out, hb3⟩
      case measure => simp [intOf]; omega
    · obtain rfl : k = l.length := by omega
      obtain ⟨aoc, capc, rfl⟩ := hO.sl.len
      have hO2 := hO.sl
      go_wp2_with fail
      go_ret
      exact ⟨_, codes, rfl, hO2, hcl, fun g i x hx => hcg.out g i x (List.getElem?_eq_some_iff.1 hx).1 hx, HB2.out.trans (hb.mono HB2.out.size)⟩
end Go.Proofs.Ytljopdkonahfhaa
