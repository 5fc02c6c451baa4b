/- A reference of a path alone: reference.ZZRef, FamiliarString, FamiliarName. -/
import Derived.Test.YtojcadkdkinacaaDoorMkMatch
namespace Go.Proofs.YtojcadkdkinacaaDoor
open Go.RowKit
set_option linter.unusedVariables false
set_option linter.unusedSimpArgs false


theorem meName (S : ByteArray) (w : World) : (method 202 48 (.agg #[.string ⟨#[]⟩, .string S]) "Name").run Tryd.prog w = .ok (39, .agg #[.string ⟨#[]⟩, .string S]) w := by kernel_rfl
theorem meFamiliar (S : ByteArray) (w : World) : (method 202 48 (.agg #[.string ⟨#[]⟩, .string S]) "Familiar").run Tryd.prog w = .ok (38, .agg #[.string ⟨#[]⟩, .string S]) w := by kernel_rfl
theorem meDomain (S : ByteArray) (w : World) : (method 202 48 (.agg #[.string ⟨#[]⟩, .string S]) "Domain").run Tryd.prog w = .ok (37, .agg #[.string ⟨#[]⟩, .string S]) w := by kernel_rfl
theorem mePath (S : ByteArray) (w : World) : (method 202 48 (.agg #[.string ⟨#[]⟩, .string S]) "Path").run Tryd.prog w = .ok (59, .agg #[.string ⟨#[]⟩, .string S]) w := by kernel_rfl
theorem meString (S : ByteArray) (w : World) : (method 202 48 (.agg #[.string ⟨#[]⟩, .string S]) "String").run Tryd.prog w = .ok (40, .agg #[.string ⟨#[]⟩, .string S]) w := by kernel_rfl

theorem name_path (S : ByteArray) (w : World) :
    Calls Tryd.prog 39 #[.agg #[.string ⟨#[]⟩, .string S]] w fun e w' => e = .returned (.string S) ∧ w' = w.alloc (.cells #[.string ⟨#[]⟩, .string S] 48) := by
  go_enter Tryd.func39, Tryd.ntmps39
  go_wp2_with fail
  go_ret
  exact ⟨rfl, rfl⟩
theorem domain_path (S : ByteArray) (w : World) :
    Calls Tryd.prog 37 #[.agg #[.string ⟨#[]⟩, .string S]] w fun e w' => e = .returned (.string ⟨#[]⟩) ∧ w' = w.alloc (.cells #[.string ⟨#[]⟩, .string S] 48) := by
  go_enter Tryd.func37, Tryd.ntmps37
  go_wp2_with fail
  go_ret
  exact ⟨rfl, rfl⟩
theorem path_path (S : ByteArray) (w : World) :
    Calls Tryd.prog 59 #[.agg #[.string ⟨#[]⟩, .string S]] w fun e w' => e = .returned (.string S) ∧ w' = w.alloc (.cells #[.string ⟨#[]⟩, .string S] 48) := by
  go_enter Tryd.func59, Tryd.ntmps59
  go_wp2_with fail
  go_ret
  exact ⟨rfl, rfl⟩
set_option maxRecDepth 100000 in
set_option maxHeartbeats 4000000 in
theorem best_path (S : ByteArray) (h0 : S.toList.isEmpty = false) (w : World) :
    Calls Tryd.prog 15 #[.agg #[(.iface 48 (.agg #[.string ⟨#[]⟩, .string S])), .string ⟨#[]⟩, .string ⟨#[]⟩]] w fun e w' => e = .returned (.iface 48 (.agg #[.string ⟨#[]⟩, .string S])) ∧ Below w.heap.size w w' := by
  have m_meName := meName
  go_enter Tryd.func15, Tryd.ntmps15
  go_wp2_with fail
  refine (name_path S _).mono ?_
  rintro e w1 ⟨rfl, rfl⟩
  go_wp2_with fail
  refine bodyPost_ret (v := (.iface 48 (.agg #[.string ⟨#[]⟩, .string S]))) (by simp [results, Tryd.results15, go_sem]) rfl ⟨rfl, ?_⟩
  exact (by repeat (first | (with_reducible assumption) | (with_reducible exact Below.refl _ _) | (with_reducible refine below_drewN ?_ _) | (with_reducible refine Below.drew ?_) | (with_reducible refine Below.setCell ?_ (by first | omega | (simp <;> omega)) _) | (with_reducible refine Below.alloc ?_ (by first | omega | (simp <;> omega)) _)))

set_option maxRecDepth 100000 in
set_option maxHeartbeats 4000000 in
theorem zzRef_path (S : ByteArray) (h0 : S.toList.isEmpty = false) (w : World) :
    Calls Tryd.prog 11 #[.string ⟨#[]⟩, .string S, .string ⟨#[]⟩, .string ⟨#[]⟩] w fun e w' => e = .returned (.iface 48 (.agg #[.string ⟨#[]⟩, .string S])) ∧ Below w.heap.size w w' := by
  go_enter Tryd.func11, Tryd.ntmps11
  go_wp2_with fail
  refine (best_path S h0 _).mono ?_
  rintro e w1 ⟨rfl, hb1⟩
  have bk1 : Below w.heap.size w w1 := Below.trans (by repeat (first | (with_reducible assumption) | (with_reducible exact Below.refl _ _) | (with_reducible refine below_drewN ?_ _) | (with_reducible refine Below.drew ?_) | (with_reducible refine Below.setCell ?_ (by first | omega | (simp <;> omega)) _) | (with_reducible refine Below.alloc ?_ (by first | omega | (simp <;> omega)) _))) (hb1.mono (by first | exact Nat.le_refl _ | omega | (simp <;> omega)))
  have nk1 : w.heap.size ≤ w1.heap.size := bk1.size
  clear hb1
  go_wp2_with fail
  refine bodyPost_ret (v := (.iface 48 (.agg #[.string ⟨#[]⟩, .string S]))) (by simp [results, Tryd.results11, go_sem]) rfl ⟨rfl, ?_⟩
  exact (by repeat (first | (with_reducible assumption) | (with_reducible exact Below.refl _ _) | (with_reducible refine below_drewN ?_ _) | (with_reducible refine Below.drew ?_) | (with_reducible refine Below.setCell ?_ (by first | omega | (simp <;> omega)) _) | (with_reducible refine Below.alloc ?_ (by first | omega | (simp <;> omega)) _)))

set_option maxRecDepth 100000 in
set_option maxHeartbeats 4000000 in
theorem ref_path (S : ByteArray) (h0 : S.toList.isEmpty = false) (w : World) :
    Calls Tryd.prog 9 #[.agg #[.string ⟨#[]⟩, .string S, .string ⟨#[]⟩, .string ⟨#[]⟩]] w fun e w' => e = .returned (.iface 48 (.agg #[.string ⟨#[]⟩, .string S])) ∧ Below w.heap.size w w' := by
  go_enter Tryd.func9, Tryd.ntmps9
  go_wp2_with fail
  refine (zzRef_path S h0 _).mono ?_
  rintro e w1 ⟨rfl, hb1⟩
  have bk1 : Below w.heap.size w w1 := Below.trans (by repeat (first | (with_reducible assumption) | (with_reducible exact Below.refl _ _) | (with_reducible refine below_drewN ?_ _) | (with_reducible refine Below.drew ?_) | (with_reducible refine Below.setCell ?_ (by first | omega | (simp <;> omega)) _) | (with_reducible refine Below.alloc ?_ (by first | omega | (simp <;> omega)) _))) (hb1.mono (by first | exact Nat.le_refl _ | omega | (simp <;> omega)))
  have nk1 : w.heap.size ≤ w1.heap.size := bk1.size
  clear hb1
  go_wp2_with fail
  refine bodyPost_ret (v := (.iface 48 (.agg #[.string ⟨#[]⟩, .string S]))) (by simp [results, Tryd.results9, go_sem]) rfl ⟨rfl, ?_⟩
  exact (by repeat (first | (with_reducible assumption) | (with_reducible exact Below.refl _ _) | (with_reducible refine below_drewN ?_ _) | (with_reducible refine Below.drew ?_) | (with_reducible refine Below.setCell ?_ (by first | omega | (simp <;> omega)) _) | (with_reducible refine Below.alloc ?_ (by first | omega | (simp <;> omega)) _)))

set_option maxRecDepth 100000 in
set_option maxHeartbeats 4000000 in
theorem familiarize_path (S : ByteArray) (w : World) :
    Calls Tryd.prog 41 #[(.iface 48 (.agg #[.string ⟨#[]⟩, .string S]))] w fun e w' => e = .returned (.agg #[.string ⟨#[]⟩, .string S]) ∧ Below w.heap.size w w' := by
  have m_meDomain := meDomain
  have m_mePath := mePath
  go_enter Tryd.func41, Tryd.ntmps41
  go_wp2_with fail
  refine (domain_path S _).mono ?_
  rintro e w1 ⟨rfl, rfl⟩
  go_wp2_with fail
  refine (path_path S _).mono ?_
  rintro e w2 ⟨rfl, rfl⟩
  go_wp2_with fail
  refine bodyPost_ret (v := (.agg #[.string ⟨#[]⟩, .string S])) (by simp [results, Tryd.results41, go_sem]) rfl ⟨rfl, ?_⟩
  exact (by repeat (first | (with_reducible assumption) | (with_reducible exact Below.refl _ _) | (with_reducible refine below_drewN ?_ _) | (with_reducible refine Below.drew ?_) | (with_reducible refine Below.setCell ?_ (by first | omega | (simp <;> omega)) _) | (with_reducible refine Below.alloc ?_ (by first | omega | (simp <;> omega)) _)))

set_option maxRecDepth 100000 in
set_option maxHeartbeats 4000000 in
theorem familiar_path (S : ByteArray) (w : World) :
    Calls Tryd.prog 38 #[(.agg #[.string ⟨#[]⟩, .string S])] w fun e w' => e = .returned (.iface 48 (.agg #[.string ⟨#[]⟩, .string S])) ∧ Below w.heap.size w w' := by
  go_enter Tryd.func38, Tryd.ntmps38
  go_wp2_with fail
  refine (familiarize_path S _).mono ?_
  rintro e w1 ⟨rfl, hb1⟩
  have bk1 : Below w.heap.size w w1 := Below.trans (by repeat (first | (with_reducible assumption) | (with_reducible exact Below.refl _ _) | (with_reducible refine below_drewN ?_ _) | (with_reducible refine Below.drew ?_) | (with_reducible refine Below.setCell ?_ (by first | omega | (simp <;> omega)) _) | (with_reducible refine Below.alloc ?_ (by first | omega | (simp <;> omega)) _))) (hb1.mono (by first | exact Nat.le_refl _ | omega | (simp <;> omega)))
  have nk1 : w.heap.size ≤ w1.heap.size := bk1.size
  clear hb1
  go_wp2_with fail
  refine bodyPost_ret (v := (.iface 48 (.agg #[.string ⟨#[]⟩, .string S]))) (by simp [results, Tryd.results38, go_sem]) rfl ⟨rfl, ?_⟩
  exact (by repeat (first | (with_reducible assumption) | (with_reducible exact Below.refl _ _) | (with_reducible refine below_drewN ?_ _) | (with_reducible refine Below.drew ?_) | (with_reducible refine Below.setCell ?_ (by first | omega | (simp <;> omega)) _) | (with_reducible refine Below.alloc ?_ (by first | omega | (simp <;> omega)) _)))

set_option maxRecDepth 100000 in
set_option maxHeartbeats 4000000 in
theorem string_path (S : ByteArray) (w : World) :
    Calls Tryd.prog 40 #[(.agg #[.string ⟨#[]⟩, .string S])] w fun e w' => e = .returned (.string S) ∧ Below w.heap.size w w' := by
  go_enter Tryd.func40, Tryd.ntmps40
  go_wp2_with fail
  refine (name_path S _).mono ?_
  rintro e w1 ⟨rfl, rfl⟩
  go_wp2_with fail
  refine bodyPost_ret (v := (.string S)) (by simp [results, Tryd.results40, go_sem]) rfl ⟨rfl, ?_⟩
  exact (by repeat (first | (with_reducible assumption) | (with_reducible exact Below.refl _ _) | (with_reducible refine below_drewN ?_ _) | (with_reducible refine Below.drew ?_) | (with_reducible refine Below.setCell ?_ (by first | omega | (simp <;> omega)) _) | (with_reducible refine Below.alloc ?_ (by first | omega | (simp <;> omega)) _)))

theorem assertNN (v : Value) (w : World) : (Instr.typeAssert (.iface 48 v) 33 59 true).run Tryd.prog w = .ok (.tuple #[.iface 48 v, .bool true]) w := by kernel_rfl
theorem assertN2 (v : Value) (w : World) : (Instr.typeAssert (.iface 48 v) 43 59 true).run Tryd.prog w = .ok (.tuple #[.iface 48 v, .bool true]) w := by kernel_rfl
theorem assertN3 (v : Value) (w : World) : (Instr.typeAssert (.iface 48 v) 33 43 true).run Tryd.prog w = .ok (.tuple #[.iface 48 v, .bool true]) w := by kernel_rfl
set_option maxRecDepth 100000 in
set_option maxHeartbeats 4000000 in
theorem famString_path (S : ByteArray) (w : World) :
    Calls Tryd.prog 13 #[(.iface 48 (.agg #[.string ⟨#[]⟩, .string S]))] w fun e w' => e = .returned (.string S) ∧ Below w.heap.size w w' := by
  have m_assertNN := assertNN
  have m_meFamiliar := meFamiliar
  have m_meString := meString
  go_enter Tryd.func13, Tryd.ntmps13
  go_wp2_with fail
  refine (familiar_path S _).mono ?_
  rintro e w1 ⟨rfl, hb1⟩
  have bk1 : Below w.heap.size w w1 := Below.trans (by repeat (first | (with_reducible assumption) | (with_reducible exact Below.refl _ _) | (with_reducible refine below_drewN ?_ _) | (with_reducible refine Below.drew ?_) | (with_reducible refine Below.setCell ?_ (by first | omega | (simp <;> omega)) _) | (with_reducible refine Below.alloc ?_ (by first | omega | (simp <;> omega)) _))) (hb1.mono (by first | exact Nat.le_refl _ | omega | (simp <;> omega)))
  have nk1 : w.heap.size ≤ w1.heap.size := bk1.size
  clear hb1
  go_wp2_with fail
  refine (string_path S _).mono ?_
  rintro e w2 ⟨rfl, hb2⟩
  have bk2 : Below w.heap.size w w2 := Below.trans (by repeat (first | (with_reducible assumption) | (with_reducible exact Below.refl _ _) | (with_reducible refine below_drewN ?_ _) | (with_reducible refine Below.drew ?_) | (with_reducible refine Below.setCell ?_ (by first | omega | (simp <;> omega)) _) | (with_reducible refine Below.alloc ?_ (by first | omega | (simp <;> omega)) _))) (hb2.mono (by first | exact Nat.le_refl _ | omega | (simp <;> omega)))
  have nk2 : w.heap.size ≤ w2.heap.size := bk2.size
  clear hb2
  go_wp2_with fail
  refine bodyPost_ret (v := (.string S)) (by simp [results, Tryd.results13, go_sem]) rfl ⟨rfl, ?_⟩
  exact (by repeat (first | (with_reducible assumption) | (with_reducible exact Below.refl _ _) | (with_reducible refine below_drewN ?_ _) | (with_reducible refine Below.drew ?_) | (with_reducible refine Below.setCell ?_ (by first | omega | (simp <;> omega)) _) | (with_reducible refine Below.alloc ?_ (by first | omega | (simp <;> omega)) _)))

set_option maxRecDepth 100000 in
set_option maxHeartbeats 4000000 in
theorem famName_path (S : ByteArray) (w : World) :
    Calls Tryd.prog 14 #[(.iface 48 (.agg #[.string ⟨#[]⟩, .string S]))] w fun e w' => e = .returned (.string S) ∧ Below w.heap.size w w' := by
  have m_assertN2 := assertN2
  have m_meFamiliar := meFamiliar
  have m_meName := meName
  go_enter Tryd.func14, Tryd.ntmps14
  go_wp2_with fail
  refine (familiar_path S _).mono ?_
  rintro e w1 ⟨rfl, hb1⟩
  have bk1 : Below w.heap.size w w1 := Below.trans (by repeat (first | (with_reducible assumption) | (with_reducible exact Below.refl _ _) | (with_reducible refine below_drewN ?_ _) | (with_reducible refine Below.drew ?_) | (with_reducible refine Below.setCell ?_ (by first | omega | (simp <;> omega)) _) | (with_reducible refine Below.alloc ?_ (by first | omega | (simp <;> omega)) _))) (hb1.mono (by first | exact Nat.le_refl _ | omega | (simp <;> omega)))
  have nk1 : w.heap.size ≤ w1.heap.size := bk1.size
  clear hb1
  go_wp2_with fail
  refine (name_path S _).mono ?_
  rintro e w2 ⟨rfl, rfl⟩
  go_wp2_with fail
  refine bodyPost_ret (v := (.string S)) (by simp [results, Tryd.results14, go_sem]) rfl ⟨rfl, ?_⟩
  exact (by repeat (first | (with_reducible assumption) | (with_reducible exact Below.refl _ _) | (with_reducible refine below_drewN ?_ _) | (with_reducible refine Below.drew ?_) | (with_reducible refine Below.setCell ?_ (by first | omega | (simp <;> omega)) _) | (with_reducible refine Below.alloc ?_ (by first | omega | (simp <;> omega)) _)))

end Go.Proofs.YtojcadkdkinacaaDoor
