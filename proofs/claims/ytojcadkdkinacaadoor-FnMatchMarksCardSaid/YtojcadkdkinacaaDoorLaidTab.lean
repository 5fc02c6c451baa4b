/- The listed variables: nothing is taken of them; the door's own heap meets the list. -/
import Derived.Test.YtojcadkdkinacaaDoorLaidErr
import Derived.Test.YtojcadkdkinacaaDoorRows
import Derived.Stop.LaidErr
import Derived.LaidMore
import Derived.MakeChecks
namespace Go.Proofs.YtojcadkdkinacaaDoor
open Go.RowKit
set_option linter.unusedVariables false

def laidT : List (String × DataW Unit) := [("unicode/utf8.acceptRanges", Rows.laid_unicode_utf8_acceptRanges), ("path.ErrBadPattern", Rows.laid_path_ErrBadPattern), ("unicode/utf8.first", Rows.laid_unicode_utf8_first)]
theorem none_of_laid {W : World} (h : laidMetH Tryd.prog laidT W) : NoPrem W := trivial
end Go.Proofs.YtojcadkdkinacaaDoor
