/-
  DERIVED. GIVEN WITH THE SEED: THE CARDS: each row of YtjlbljajgkiniaaDoorRows.lean that lists a variable, with what it lists TIED to the program's text (the seventh form; the later family's looks); each row that meets fmt, with fmt's text TOLD by the authors' own Lean function (tested against real Go, not proved from fmt's source: count such statements apart). THE CARD IS WHAT COUNTS. Prove the row's statement (the work); the ties are given (YtjlbljajgkiniaaDoorTie.lean); close each card by the builder's one call (the guide's Derived/Test/ToyasCard.lean, 'card_holds'). Laid BY PROGRAM, IN A SANDBOX (cutbox-door.mjs). By AI agents, Wed Nov 11 2026. No macro, syntax, notation, axiom, sorry.
-/
import Derived.Test.YtjlbljajgkiniaaDoorRows
import GoSem.ClaimSeven
namespace Go.Proofs.YtjlbljajgkiniaaDoor
namespace Rows

/-- THE TIED CARD OF 'laws.FnSemverIncReach'. -/
def fnSemverIncReachCard : Claim7 := { stood := { row := fnSemverIncReachRow, standIns := [], harness := (true, "bda537312609851fe57f262019865a252723551113f47c4d1d66ee40874926fa"), looks := true }, kinds := [], alts := [], laidByText := true, laidKinds := [.data, .data, .data, .sentinel, .sentinel], laidTests := true, laidLooks := .later }
def FnSemverIncReachCardSaid : Prop := Claim7.holds Tryd.pinned (.plain (OpenSpec.ofChange fnSemverIncReachSpec)) fnSemverIncReachCard

/-- THE TIED CARD OF 'laws.FnSemverSortByHand'. -/
def fnSemverSortByHandCard : Claim7 := { stood := { row := fnSemverSortByHandRow, standIns := [], harness := (true, "bda537312609851fe57f262019865a252723551113f47c4d1d66ee40874926fa"), looks := true }, kinds := [], alts := [], laidByText := true, laidKinds := [.data, .data, .data, .sentinel, .sentinel], laidTests := true, laidLooks := .later }
def FnSemverSortByHandCardSaid : Prop := Claim7.holds Tryd.pinned (.plain (OpenSpec.ofChange fnSemverSortByHandSpec)) fnSemverSortByHandCard

/-- THE SECOND FORM's CARD OF 'laws.FnSemverIncReach'. -/
def fnSemverIncReachUptoCard : Claim7 := { stood := { row := fnSemverIncReachUptoRow, standIns := [], harness := (true, "bda537312609851fe57f262019865a252723551113f47c4d1d66ee40874926fa"), looks := true }, kinds := [], alts := [], laidByText := true, laidKinds := [.data, .data, .data, .sentinel, .sentinel], laidTests := true, laidLooks := .later }
def FnSemverIncReachUptoCardSaid : Prop := Claim7.holds Tryd.pinned (.plain (OpenSpec.upto fnSemverIncReachSpec)) fnSemverIncReachUptoCard

/-- THE SECOND FORM's CARD OF 'laws.FnSemverSortByHand'. -/
def fnSemverSortByHandUptoCard : Claim7 := { stood := { row := fnSemverSortByHandUptoRow, standIns := [], harness := (true, "bda537312609851fe57f262019865a252723551113f47c4d1d66ee40874926fa"), looks := true }, kinds := [], alts := [], laidByText := true, laidKinds := [.data, .data, .data, .sentinel, .sentinel], laidTests := true, laidLooks := .later }
def FnSemverSortByHandUptoCardSaid : Prop := Claim7.holds Tryd.pinned (.plain (OpenSpec.upto fnSemverSortByHandSpec)) fnSemverSortByHandUptoCard
end Rows
end Go.Proofs.YtjlbljajgkiniaaDoor
