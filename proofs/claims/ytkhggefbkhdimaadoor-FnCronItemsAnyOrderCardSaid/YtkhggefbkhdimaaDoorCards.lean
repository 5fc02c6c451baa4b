/-
  DERIVED. GIVEN WITH THE SEED: THE CARDS: each row of YtkhggefbkhdimaaDoorRows.lean that lists a variable, with what it lists TIED to the program's text (the seventh form; the later family's looks); each row that meets fmt, with fmt's text TOLD by the authors' own Lean function (tested against real Go, not proved from fmt's source: count such statements apart). THE CARD IS WHAT COUNTS. Prove the row's statement (the work); the ties are given (YtkhggefbkhdimaaDoorTie.lean); close each card by the builder's one call (the guide's Derived/Test/ToyasCard.lean, 'card_holds'). Laid BY PROGRAM, IN A SANDBOX (cutbox-door.mjs). By AI agents, Wed Nov 11 2026. No macro, syntax, notation, axiom, sorry.
-/
import Derived.Test.YtkhggefbkhdimaaDoorRows
import GoSem.ClaimSeven
namespace Go.Proofs.YtkhggefbkhdimaaDoor
namespace Rows

/-- THE TIED CARD OF 'laws.FnCronField'. -/
def fnCronFieldCard : Claim7 := { stood := { row := fnCronFieldRow, standIns := [], harness := (true, "9738f7a7ca01fafff370fa52d833ddb34ca2f6684a3a5e3b77efa0546b4d1000"), looks := true }, kinds := [], alts := [], laidByText := true, laidKinds := [.data, .data, .data, .sentinel, .sentinel], laidTests := true, laidLooks := .later }
def FnCronFieldCardSaid : Prop := Claim7.holds Tryd.pinned (.plain (OpenSpec.ofChange fnCronFieldSpec)) fnCronFieldCard

/-- THE TIED CARD OF 'laws.FnCronItemsAnyOrder'. -/
def fnCronItemsAnyOrderCard : Claim7 := { stood := { row := fnCronItemsAnyOrderRow, standIns := [], harness := (true, "9738f7a7ca01fafff370fa52d833ddb34ca2f6684a3a5e3b77efa0546b4d1000"), looks := true }, kinds := [], alts := [], laidByText := true, laidKinds := [.data, .data, .data, .sentinel, .sentinel], laidTests := true, laidLooks := .later }
def FnCronItemsAnyOrderCardSaid : Prop := Claim7.holds Tryd.pinned (.plain (OpenSpec.ofChange fnCronItemsAnyOrderSpec)) fnCronItemsAnyOrderCard

/-- THE TIED CARD OF 'laws.FnCronEveryUnits'. -/
def fnCronEveryUnitsCard : Claim7 := { stood := { row := fnCronEveryUnitsRow, standIns := [], harness := (true, "9738f7a7ca01fafff370fa52d833ddb34ca2f6684a3a5e3b77efa0546b4d1000"), looks := true }, kinds := [], alts := [], laidByText := true, laidKinds := [.data, .data, .data, .data, .sentinel, .sentinel, .sentinel, .sentinel, .pinned], laidTests := true, laidLooks := .later }
def FnCronEveryUnitsCardSaid : Prop := Claim7.holds Tryd.pinned (.plain (OpenSpec.ofChange fnCronEveryUnitsSpec)) fnCronEveryUnitsCard

/-- THE SECOND FORM's CARD OF 'laws.FnCronField'. -/
def fnCronFieldUptoCard : Claim7 := { stood := { row := fnCronFieldUptoRow, standIns := [], harness := (true, "9738f7a7ca01fafff370fa52d833ddb34ca2f6684a3a5e3b77efa0546b4d1000"), looks := true }, kinds := [], alts := [], laidByText := true, laidKinds := [.data, .data, .data, .sentinel, .sentinel], laidTests := true, laidLooks := .later }
def FnCronFieldUptoCardSaid : Prop := Claim7.holds Tryd.pinned (.plain (OpenSpec.upto fnCronFieldSpec)) fnCronFieldUptoCard

/-- THE SECOND FORM's CARD OF 'laws.FnCronItemsAnyOrder'. -/
def fnCronItemsAnyOrderUptoCard : Claim7 := { stood := { row := fnCronItemsAnyOrderUptoRow, standIns := [], harness := (true, "9738f7a7ca01fafff370fa52d833ddb34ca2f6684a3a5e3b77efa0546b4d1000"), looks := true }, kinds := [], alts := [], laidByText := true, laidKinds := [.data, .data, .data, .sentinel, .sentinel], laidTests := true, laidLooks := .later }
def FnCronItemsAnyOrderUptoCardSaid : Prop := Claim7.holds Tryd.pinned (.plain (OpenSpec.upto fnCronItemsAnyOrderSpec)) fnCronItemsAnyOrderUptoCard

/-- THE SECOND FORM's CARD OF 'laws.FnCronEveryUnits'. -/
def fnCronEveryUnitsUptoCard : Claim7 := { stood := { row := fnCronEveryUnitsUptoRow, standIns := [], harness := (true, "9738f7a7ca01fafff370fa52d833ddb34ca2f6684a3a5e3b77efa0546b4d1000"), looks := true }, kinds := [], alts := [], laidByText := true, laidKinds := [.data, .data, .data, .data, .sentinel, .sentinel, .sentinel, .sentinel, .pinned], laidTests := true, laidLooks := .later }
def FnCronEveryUnitsUptoCardSaid : Prop := Claim7.holds Tryd.pinned (.plain (OpenSpec.upto fnCronEveryUnitsSpec)) fnCronEveryUnitsUptoCard
end Rows
end Go.Proofs.YtkhggefbkhdimaaDoor
