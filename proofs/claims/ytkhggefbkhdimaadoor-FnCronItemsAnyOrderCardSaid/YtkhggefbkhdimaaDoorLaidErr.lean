/- From the listed variables to the walks' premise; the door's own heap meets the list. -/
import Derived.Test.YtkhggefbkhdimaaDoorFdO
import Derived.Test.YtkhggefbkhdimaaDoorRows
import Derived.Stop.LaidErr
import Derived.LaidMore
import Derived.MakeChecks
namespace Go.Proofs.YtkhggefbkhdimaaDoor
open Go.RowKit Go.Shelf

def laidL : List (String × DataW Unit) := [("math/bits.deBruijn32tab", Rows.laid_math_bits_deBruijn32tab), ("math/bits.deBruijn64tab", Rows.laid_math_bits_deBruijn64tab), ("internal/strconv.uint64pow10", Rows.laid_internal_strconv_uint64pow10), ("strconv.ErrRange", Rows.laid_strconv_ErrRange), ("strconv.ErrSyntax", Rows.laid_strconv_ErrSyntax)]

theorem gES : Tryd.prog.globalNamed "strconv.ErrSyntax" = some 7 := by kernel_rfl
theorem gESType : (Tryd.prog.globals[7]?).map (·.type) = some 56 := by kernel_rfl
theorem gER : Tryd.prog.globalNamed "strconv.ErrRange" = some 8 := by kernel_rfl
theorem gERType : (Tryd.prog.globals[8]?).map (·.type) = some 56 := by kernel_rfl
theorem cellsEs : Tryd.prog.cellsOf 122 = 1 := by kernel_rfl
theorem cellsStr : Tryd.prog.cellsOf 9 = 1 := by kernel_rfl
theorem starEs : "*" ++ "errors.errorString" = "*errors.errorString" := by decide
theorem rowEs (u : TypeId) (h : Tryd.prog.typeName? 3 u = some "*errors.errorString") : u = 120 :=
  typeName_ptr_named (nm := "errors.errorString") (by rw [starEs]; kernel_rfl) (by kernel_rfl) (by decide) u (by rw [starEs]; exact h)

theorem errs_of_laid {W : World} (h : laidMetH Tryd.prog laidL W) : Errs W := by
  rw [MakeChecks.laidMetH_plain _ _ _ (by kernel_rfl)] at h
  obtain ⟨a0, s0, hv0, -, -, -⟩ := laid_sentinel h.tail.tail.tail gER gERType Tryd.underlying56 rowEs Tryd.underlying120 Tryd.underlying122 rfl rfl Tryd.underlying9 cellsEs cellsStr
  obtain ⟨a1, s1, hv1, -, -, -⟩ := laid_sentinel h.tail.tail.tail.tail gES gESType Tryd.underlying56 rowEs Tryd.underlying120 Tryd.underlying122 rfl rfl Tryd.underlying9 cellsEs cellsStr
  have c0 := World.var?_cell gER hv0 0
  have c1 := World.var?_cell gES hv1 0
  simp at c0 c1
  exact ⟨cellLt c1, cellLt c0, ⟨_, c1, .inr ⟨_, _, rfl⟩⟩, ⟨_, c0, .inr ⟨_, _, rfl⟩⟩⟩

/-- The door's own heap meets the condition. -/
theorem door_met (os : Os) (args : Array Value) : laidMetH Tryd.prog laidL ((World.doorLaid Tryd.prog 400 os).forCall (fun _ _ => 0) ⟨#[], args, []⟩).memory :=
  laidMetH_of_parts3 (fuel := 8) (laidMet_of_run' 8 (by kernel_rfl) (by kernel_rfl)) (by kernel_rfl) (by kernel_rfl)
#print axioms door_met
end Go.Proofs.YtkhggefbkhdimaaDoor
