/-
  DERIVED. GIVEN WITH THE SEED: THE CARDS: each row of YtbipmpojmfbekaaDoorRows.lean that lists a variable, with what it lists TIED to the program's text (the seventh form; the later family's looks); each row that meets fmt, with fmt's text TOLD by the authors' own Lean function (tested against real Go, not proved from fmt's source: count such statements apart). THE CARD IS WHAT COUNTS. Prove the row's statement (the work); the ties are given (YtbipmpojmfbekaaDoorTie.lean); close each card by the builder's one call (the guide's Derived/Test/ToyasCard.lean, 'card_holds'). Laid BY PROGRAM, IN A SANDBOX (cutbox-door.mjs). By AI agents, Wed Nov 11 2026. No macro, syntax, notation, axiom, sorry.
-/
import Derived.Test.YtbipmpojmfbekaaDoorRows
import GoSem.ClaimSeven
namespace Go.Proofs.YtbipmpojmfbekaaDoor
namespace Rows

/-- THE TIED CARD OF 'laws.FnSemverPrintReads'. -/
def fnSemverPrintReadsCard : Claim7 := { stood := { row := fnSemverPrintReadsRow, standIns := [], harness := (true, "10f5731b077e99c7843dc225429129760123d05e6ebdd254c0295f7950fa8457"), looks := true }, kinds := [], alts := [], laidByText := true, laidKinds := [.data, .data, .data, .sentinel, .sentinel, .sentinel, .sentinel, .sentinel, .sentinel, .sentinel, .sentinel, .sentinel], laidTests := true, laidLooks := .later }
def FnSemverPrintReadsCardSaid : Prop := Claim7.holds Tryd.pinned (.plain (OpenSpec.ofChange fnSemverPrintReadsSpec)) fnSemverPrintReadsCard

/-- THE SECOND FORM's CARD OF 'laws.FnSemverPrintReads'. -/
def fnSemverPrintReadsUptoCard : Claim7 := { stood := { row := fnSemverPrintReadsUptoRow, standIns := [], harness := (true, "10f5731b077e99c7843dc225429129760123d05e6ebdd254c0295f7950fa8457"), looks := true }, kinds := [], alts := [], laidByText := true, laidKinds := [.data, .data, .data, .sentinel, .sentinel, .sentinel, .sentinel, .sentinel, .sentinel, .sentinel, .sentinel, .sentinel], laidTests := true, laidLooks := .later }
def FnSemverPrintReadsUptoCardSaid : Prop := Claim7.holds Tryd.pinned (.plain (OpenSpec.upto fnSemverPrintReadsSpec)) fnSemverPrintReadsUptoCard
end Rows
end Go.Proofs.YtbipmpojmfbekaaDoor
