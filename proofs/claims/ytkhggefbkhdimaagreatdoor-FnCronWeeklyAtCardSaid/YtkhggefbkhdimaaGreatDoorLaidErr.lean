/- From the listed variables (nine, one of them pinned) to the walks' premise of the errors. -/
import Derived.Test.YtkhggefbkhdimaaGreatDoorFdO
import Derived.Test.YtkhggefbkhdimaaGreatDoorRows
import Derived.Stop.LaidErr
import Derived.LaidMore
import Derived.MakeChecks
namespace Go.Proofs.YtkhggefbkhdimaaGreatDoor
open Go.RowKit Go.Shelf
set_option linter.unusedVariables false

def laidT : List (String × DataW Unit) := [("math/bits.deBruijn32tab", Rows.laid_math_bits_deBruijn32tab), ("math/bits.deBruijn64tab", Rows.laid_math_bits_deBruijn64tab), ("internal/strconv.uint64pow10", Rows.laid_internal_strconv_uint64pow10), ("unicode/utf8.acceptRanges", Rows.laid_unicode_utf8_acceptRanges), ("pub-timebook/pub/gotime.errLeadingInt", Rows.laid_pub_timebook_pub_gotime_errLeadingInt), ("pub-timebook/pub/gotime.errLocation", Rows.laid_pub_timebook_pub_gotime_errLocation), ("strconv.ErrRange", Rows.laid_strconv_ErrRange), ("strconv.ErrSyntax", Rows.laid_strconv_ErrSyntax), ("unicode/utf8.first", Rows.laid_unicode_utf8_first)]
theorem gES : Tryz.prog.globalNamed "strconv.ErrSyntax" = some 7 := by kernel_rfl
theorem gESType : (Tryz.prog.globals[7]?).map (·.type) = some 70 := by kernel_rfl
theorem gER : Tryz.prog.globalNamed "strconv.ErrRange" = some 8 := by kernel_rfl
theorem gERType : (Tryz.prog.globals[8]?).map (·.type) = some 70 := by kernel_rfl
theorem cellsEs : Tryz.prog.cellsOf 148 = 1 := by kernel_rfl
theorem cellsStr : Tryz.prog.cellsOf 9 = 1 := by kernel_rfl
theorem starEs : "*" ++ "errors.errorString" = "*errors.errorString" := by decide
theorem rowEs (u : TypeId) (h : Tryz.prog.typeName? 3 u = some "*errors.errorString") : u = 146 :=
  typeName_ptr_named (nm := "errors.errorString") (by rw [starEs]; kernel_rfl) (by kernel_rfl) (by decide) u (by rw [starEs]; exact h)
theorem errs_of_laid {W : World} (h : laidMetH Tryz.prog laidT W) : Errs W := by
  rw [MakeChecks.laidMetH_plain _ _ _ (by kernel_rfl)] at h
  obtain ⟨a0, s0, hv0, -, -, -⟩ := laid_sentinel h.tail.tail.tail.tail.tail.tail gER gERType Tryz.underlying70 rowEs Tryz.underlying146 Tryz.underlying148 rfl rfl Tryz.underlying9 cellsEs cellsStr
  obtain ⟨a1, s1, hv1, -, -, -⟩ := laid_sentinel h.tail.tail.tail.tail.tail.tail.tail gES gESType Tryz.underlying70 rowEs Tryz.underlying146 Tryz.underlying148 rfl rfl Tryz.underlying9 cellsEs cellsStr
  have c0 := World.var?_cell gER hv0 0
  have c1 := World.var?_cell gES hv1 0
  simp at c0 c1
  exact ⟨cellLt c1, cellLt c0, ⟨_, c1, .inr ⟨_, _, rfl⟩⟩, ⟨_, c0, .inr ⟨_, _, rfl⟩⟩⟩
end Go.Proofs.YtkhggefbkhdimaaGreatDoor
