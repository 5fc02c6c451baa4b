/- From the listed variables to the table of powers of ten. -/
import Derived.Test.YtbipmpojmfbekaaDoorFmtUint
import Derived.Test.YtbipmpojmfbekaaDoorRows
import Derived.Stop.LaidErr
import Derived.LaidMore
import Derived.MakeChecks
namespace Go.Proofs.YtbipmpojmfbekaaDoor
open Go.RowKit Go.Shelf

def laidT : List (String × DataW Unit) := [("math/bits.deBruijn32tab", Rows.laid_math_bits_deBruijn32tab), ("math/bits.deBruijn64tab", Rows.laid_math_bits_deBruijn64tab), ("internal/strconv.uint64pow10", Rows.laid_internal_strconv_uint64pow10), ("strconv.ErrRange", Rows.laid_strconv_ErrRange), ("strconv.ErrSyntax", Rows.laid_strconv_ErrSyntax), ("pub-timebook/pub/semver.ErrInvalidSemVer", Rows.laid_pub_timebook_pub_semver_ErrInvalidSemVer), ("pub-timebook/pub/semver.ErrEmptyString", Rows.laid_pub_timebook_pub_semver_ErrEmptyString), ("pub-timebook/pub/semver.ErrInvalidCharacters", Rows.laid_pub_timebook_pub_semver_ErrInvalidCharacters), ("pub-timebook/pub/semver.ErrSegmentStartsZero", Rows.laid_pub_timebook_pub_semver_ErrSegmentStartsZero), ("pub-timebook/pub/semver.ErrInvalidMetadata", Rows.laid_pub_timebook_pub_semver_ErrInvalidMetadata), ("pub-timebook/pub/semver.ErrInvalidPrerelease", Rows.laid_pub_timebook_pub_semver_ErrInvalidPrerelease), ("pub-timebook/pub/semver.ErrVersionTooLong", Rows.laid_pub_timebook_pub_semver_ErrVersionTooLong)]

theorem tab_of_laid {W : World} (h : laidMetH Tryd.prog laidT W) : Tab10 W := by
  rw [MakeChecks.laidMetH_plain _ _ _ (by kernel_rfl)] at h
  have h2 := h.tail.tail
  exact Lib.tabIs_of_head (e := 22) (n := 20) (g := 9) (by kernel_rfl) (by kernel_rfl) Tryd.underlying82 Tryd.underlying22 (by kernel_rfl) (by kernel_rfl) h2

/-- The door's own heap meets the condition. -/
theorem door_metT (os : Os) (args : Array Value) : laidMetH Tryd.prog laidT ((World.doorLaid Tryd.prog 400 os).forCall (fun _ _ => 0) ⟨#[], args, []⟩).memory :=
  laidMetH_of_parts3 (fuel := 8) (laidMet_of_run' 8 (by kernel_rfl) (by kernel_rfl)) (by kernel_rfl) (by kernel_rfl)
end Go.Proofs.YtbipmpojmfbekaaDoor
