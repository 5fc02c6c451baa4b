/- No premise is wanted of the listed variables. -/
import Derived.Test.YtojcadkdkinacaaDoorWk
namespace Go.Proofs.YtojcadkdkinacaaDoor
def NoPrem (_w : World) : Prop := True
end Go.Proofs.YtojcadkdkinacaaDoor
