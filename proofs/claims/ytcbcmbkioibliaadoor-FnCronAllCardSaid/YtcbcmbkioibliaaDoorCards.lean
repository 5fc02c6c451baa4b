/-
  DERIVED. GIVEN WITH THE SEED: THE CARDS: each row of YtcbcmbkioibliaaDoorRows.lean that lists a variable, with what it lists TIED to the program's text (the seventh form; the later family's looks); each row that meets fmt, with fmt's text TOLD by the authors' own Lean function (tested against real Go, not proved from fmt's source: count such statements apart). THE CARD IS WHAT COUNTS. Prove the row's statement (the work); the ties are given (YtcbcmbkioibliaaDoorTie.lean); close each card by the builder's one call (the guide's Derived/Test/ToyasCard.lean, 'card_holds'). Laid BY PROGRAM, IN A SANDBOX (cutbox-door.mjs). By AI agents, Wed Nov 11 2026. No macro, syntax, notation, axiom, sorry.
-/
import Derived.Test.YtcbcmbkioibliaaDoorRows
import GoSem.ClaimSeven
namespace Go.Proofs.YtcbcmbkioibliaaDoor
namespace Rows

/-- THE TIED CARD OF 'laws.FnCronItemRange'. -/
def fnCronItemRangeCard : Claim7 := { stood := { row := fnCronItemRangeRow, standIns := [], harness := (true, "af10b0ef81580b3e4a410f4b6aac1009befb9bbe7285565f2007bf7d80513b1b"), looks := true }, kinds := [], alts := [], laidByText := true, laidKinds := [.data, .data, .data, .sentinel, .sentinel], laidTests := true, laidLooks := .later }
def FnCronItemRangeCardSaid : Prop := Claim7.holds Tryd.pinned (.plain (OpenSpec.ofChange fnCronItemRangeSpec)) fnCronItemRangeCard

/-- THE TIED CARD OF 'laws.FnCronAll'. -/
def fnCronAllCard : Claim7 := { stood := { row := fnCronAllRow, standIns := [], harness := (true, "af10b0ef81580b3e4a410f4b6aac1009befb9bbe7285565f2007bf7d80513b1b"), looks := true }, kinds := [], alts := [], laidByText := true, laidKinds := [.data, .data, .data, .sentinel, .sentinel], laidTests := true, laidLooks := .later }
def FnCronAllCardSaid : Prop := Claim7.holds Tryd.pinned (.plain (OpenSpec.ofChange fnCronAllSpec)) fnCronAllCard

/-- THE SECOND FORM's CARD OF 'laws.FnCronItemRange'. -/
def fnCronItemRangeUptoCard : Claim7 := { stood := { row := fnCronItemRangeUptoRow, standIns := [], harness := (true, "af10b0ef81580b3e4a410f4b6aac1009befb9bbe7285565f2007bf7d80513b1b"), looks := true }, kinds := [], alts := [], laidByText := true, laidKinds := [.data, .data, .data, .sentinel, .sentinel], laidTests := true, laidLooks := .later }
def FnCronItemRangeUptoCardSaid : Prop := Claim7.holds Tryd.pinned (.plain (OpenSpec.upto fnCronItemRangeSpec)) fnCronItemRangeUptoCard

/-- THE SECOND FORM's CARD OF 'laws.FnCronAll'. -/
def fnCronAllUptoCard : Claim7 := { stood := { row := fnCronAllUptoRow, standIns := [], harness := (true, "af10b0ef81580b3e4a410f4b6aac1009befb9bbe7285565f2007bf7d80513b1b"), looks := true }, kinds := [], alts := [], laidByText := true, laidKinds := [.data, .data, .data, .sentinel, .sentinel], laidTests := true, laidLooks := .later }
def FnCronAllUptoCardSaid : Prop := Claim7.holds Tryd.pinned (.plain (OpenSpec.upto fnCronAllSpec)) fnCronAllUptoCard
end Rows
end Go.Proofs.YtcbcmbkioibliaaDoor
