/-
  DERIVED. GIVEN WITH THE SEED: THE CARDS: each row of YtkhggefbkhdimaaGreatDoorRows.lean that lists a variable, with what it lists TIED to the program's text (the seventh form; the later family's looks); each row that meets fmt, with fmt's text TOLD by the authors' own Lean function (tested against real Go, not proved from fmt's source: count such statements apart). THE CARD IS WHAT COUNTS. Prove the row's statement (the work); the ties are given (YtkhggefbkhdimaaGreatDoorTie.lean); close each card by the builder's one call (the guide's Derived/Test/ToyasCard.lean, 'card_holds'). Laid BY PROGRAM, IN A SANDBOX (cutbox-door.mjs). By AI agents, Wed Nov 11 2026. No macro, syntax, notation, axiom, sorry.
-/
import Derived.Test.YtkhggefbkhdimaaGreatDoorRows
import GoSem.ClaimSeven
namespace Go.Proofs.YtkhggefbkhdimaaGreatDoor
namespace Rows

/-- THE TIED CARD OF 'laws.FnCronStandardReadBack'. -/
def fnCronStandardReadBackCard : Claim7 := { stood := { row := fnCronStandardReadBackRow, standIns := [], harness := (true, "c3f1ee938e30186c8c35adb4a2fd3730c2dd8d35c7874db3ca174106417b3c51"), looks := true }, kinds := [], alts := [], laidByText := true, laidKinds := [.data, .data, .data, .data, .sentinel, .sentinel, .sentinel, .sentinel, .pinned], laidTests := true, laidLooks := .later }
def FnCronStandardReadBackCardSaid : Prop := Claim7.holds Tryz.pinned (.plain (OpenSpec.ofChange fnCronStandardReadBackSpec)) fnCronStandardReadBackCard

/-- THE TIED CARD OF 'laws.FnCronDowOptional'. -/
def fnCronDowOptionalCard : Claim7 := { stood := { row := fnCronDowOptionalRow, standIns := [], harness := (true, "c3f1ee938e30186c8c35adb4a2fd3730c2dd8d35c7874db3ca174106417b3c51"), looks := true }, kinds := [], alts := [], laidByText := true, laidKinds := [.data, .data, .data, .data, .sentinel, .sentinel, .sentinel, .sentinel, .pinned], laidTests := true, laidLooks := .later }
def FnCronDowOptionalCardSaid : Prop := Claim7.holds Tryz.pinned (.plain (OpenSpec.ofChange fnCronDowOptionalSpec)) fnCronDowOptionalCard

/-- THE TIED CARD OF 'laws.FnCronWeeklyAt'. -/
def fnCronWeeklyAtCard : Claim7 := { stood := { row := fnCronWeeklyAtRow, standIns := [], harness := (true, "c3f1ee938e30186c8c35adb4a2fd3730c2dd8d35c7874db3ca174106417b3c51"), looks := true }, kinds := [], alts := [], laidByText := true, laidKinds := [.data, .data, .data, .data, .sentinel, .sentinel, .sentinel, .sentinel, .pinned], laidTests := true, laidLooks := .later }
def FnCronWeeklyAtCardSaid : Prop := Claim7.holds Tryz.pinned (.plain (OpenSpec.ofChange fnCronWeeklyAtSpec)) fnCronWeeklyAtCard

/-- THE SECOND FORM's CARD OF 'laws.FnCronStandardReadBack'. -/
def fnCronStandardReadBackUptoCard : Claim7 := { stood := { row := fnCronStandardReadBackUptoRow, standIns := [], harness := (true, "c3f1ee938e30186c8c35adb4a2fd3730c2dd8d35c7874db3ca174106417b3c51"), looks := true }, kinds := [], alts := [], laidByText := true, laidKinds := [.data, .data, .data, .data, .sentinel, .sentinel, .sentinel, .sentinel, .pinned], laidTests := true, laidLooks := .later }
def FnCronStandardReadBackUptoCardSaid : Prop := Claim7.holds Tryz.pinned (.plain (OpenSpec.upto fnCronStandardReadBackSpec)) fnCronStandardReadBackUptoCard

/-- THE SECOND FORM's CARD OF 'laws.FnCronDowOptional'. -/
def fnCronDowOptionalUptoCard : Claim7 := { stood := { row := fnCronDowOptionalUptoRow, standIns := [], harness := (true, "c3f1ee938e30186c8c35adb4a2fd3730c2dd8d35c7874db3ca174106417b3c51"), looks := true }, kinds := [], alts := [], laidByText := true, laidKinds := [.data, .data, .data, .data, .sentinel, .sentinel, .sentinel, .sentinel, .pinned], laidTests := true, laidLooks := .later }
def FnCronDowOptionalUptoCardSaid : Prop := Claim7.holds Tryz.pinned (.plain (OpenSpec.upto fnCronDowOptionalSpec)) fnCronDowOptionalUptoCard

/-- THE SECOND FORM's CARD OF 'laws.FnCronWeeklyAt'. -/
def fnCronWeeklyAtUptoCard : Claim7 := { stood := { row := fnCronWeeklyAtUptoRow, standIns := [], harness := (true, "c3f1ee938e30186c8c35adb4a2fd3730c2dd8d35c7874db3ca174106417b3c51"), looks := true }, kinds := [], alts := [], laidByText := true, laidKinds := [.data, .data, .data, .data, .sentinel, .sentinel, .sentinel, .sentinel, .pinned], laidTests := true, laidLooks := .later }
def FnCronWeeklyAtUptoCardSaid : Prop := Claim7.holds Tryz.pinned (.plain (OpenSpec.upto fnCronWeeklyAtSpec)) fnCronWeeklyAtUptoCard
end Rows
end Go.Proofs.YtkhggefbkhdimaaGreatDoor
