/-
  DERIVED. GIVEN WITH THE SEED: THE CARDS: each row of YtojcadkdkinacaaDoorRows.lean that lists a variable, with what it lists TIED to the program's text (the seventh form; the later family's looks); each row that meets fmt, with fmt's text TOLD by the authors' own Lean function (tested against real Go, not proved from fmt's source: count such statements apart). THE CARD IS WHAT COUNTS. Prove the row's statement (the work); the ties are given (YtojcadkdkinacaaDoorTie.lean); close each card by the builder's one call (the guide's Derived/Test/ToyasCard.lean, 'card_holds'). Laid BY PROGRAM, IN A SANDBOX (cutbox-door.mjs). By AI agents, Wed Nov 11 2026. No macro, syntax, notation, axiom, sorry.
-/
import Derived.Test.YtojcadkdkinacaaDoorRows
import GoSem.ClaimSeven
namespace Go.Proofs.YtojcadkdkinacaaDoor
namespace Rows

/-- THE TIED CARD OF 'laws.FnMatchMarks'. -/
def fnMatchMarksCard : Claim7 := { stood := { row := fnMatchMarksRow, standIns := [], harness := (true, "b58a59cde8c437ed22b4fd01dfef1bf6922680518b44bfb2f2ed04aafb4dae39"), looks := true }, kinds := [], alts := [], laidByText := true, laidKinds := [.data, .sentinel, .pinned], laidTests := true, laidLooks := .later }
def FnMatchMarksCardSaid : Prop := Claim7.holds Tryd.pinned (.plain (OpenSpec.ofChange fnMatchMarksSpec)) fnMatchMarksCard

/-- THE SECOND FORM's CARD OF 'laws.FnMatchMarks'. -/
def fnMatchMarksUptoCard : Claim7 := { stood := { row := fnMatchMarksUptoRow, standIns := [], harness := (true, "b58a59cde8c437ed22b4fd01dfef1bf6922680518b44bfb2f2ed04aafb4dae39"), looks := true }, kinds := [], alts := [], laidByText := true, laidKinds := [.data, .sentinel, .pinned], laidTests := true, laidLooks := .later }
def FnMatchMarksUptoCardSaid : Prop := Claim7.holds Tryd.pinned (.plain (OpenSpec.upto fnMatchMarksSpec)) fnMatchMarksUptoCard
end Rows
end Go.Proofs.YtojcadkdkinacaaDoor
