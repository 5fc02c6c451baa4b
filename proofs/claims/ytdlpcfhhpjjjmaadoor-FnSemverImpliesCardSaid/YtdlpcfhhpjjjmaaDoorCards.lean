/-
  DERIVED. GIVEN WITH THE SEED: THE CARDS: each row of YtdlpcfhhpjjjmaaDoorRows.lean that lists a variable, with what it lists TIED to the program's text (the seventh form; the later family's looks); each row that meets fmt, with fmt's text TOLD by the authors' own Lean function (tested against real Go, not proved from fmt's source: count such statements apart). THE CARD IS WHAT COUNTS. Prove the row's statement (the work); the ties are given (YtdlpcfhhpjjjmaaDoorTie.lean); close each card by the builder's one call (the guide's Derived/Test/ToyasCard.lean, 'card_holds'). Laid BY PROGRAM, IN A SANDBOX (cutbox-door.mjs). By AI agents, Wed Nov 11 2026. No macro, syntax, notation, axiom, sorry.
-/
import Derived.Test.YtdlpcfhhpjjjmaaDoorRows
import GoSem.ClaimSeven
namespace Go.Proofs.YtdlpcfhhpjjjmaaDoor
namespace Rows

/-- THE TIED CARD OF 'laws.FnSemverPre'. -/
def fnSemverPreCard : Claim7 := { stood := { row := fnSemverPreRow, standIns := [], harness := (true, "a22f22729e71ea010838d259ccf2f51b15a0f528c7169c3d55d9e9e5e8f39c9a"), looks := true }, kinds := [], alts := [], laidByText := true, laidKinds := [.data, .data, .data, .sentinel, .sentinel], laidTests := true, laidLooks := .later }
def FnSemverPreCardSaid : Prop := Claim7.holds Tryd.pinned (.plain (OpenSpec.ofChange fnSemverPreSpec)) fnSemverPreCard

/-- THE TIED CARD OF 'laws.FnSemverPreInVersion'. -/
def fnSemverPreInVersionCard : Claim7 := { stood := { row := fnSemverPreInVersionRow, standIns := [], harness := (true, "a22f22729e71ea010838d259ccf2f51b15a0f528c7169c3d55d9e9e5e8f39c9a"), looks := true }, kinds := [], alts := [], laidByText := true, laidKinds := [.data, .data, .data, .sentinel, .sentinel], laidTests := true, laidLooks := .later }
def FnSemverPreInVersionCardSaid : Prop := Claim7.holds Tryd.pinned (.plain (OpenSpec.ofChange fnSemverPreInVersionSpec)) fnSemverPreInVersionCard

/-- THE TIED CARD OF 'laws.FnSemverMetaFree'. -/
def fnSemverMetaFreeCard : Claim7 := { stood := { row := fnSemverMetaFreeRow, standIns := [], harness := (true, "a22f22729e71ea010838d259ccf2f51b15a0f528c7169c3d55d9e9e5e8f39c9a"), looks := true }, kinds := [], alts := [], laidByText := true, laidKinds := [.data, .data, .data, .sentinel, .sentinel], laidTests := true, laidLooks := .later }
def FnSemverMetaFreeCardSaid : Prop := Claim7.holds Tryd.pinned (.plain (OpenSpec.ofChange fnSemverMetaFreeSpec)) fnSemverMetaFreeCard

/-- THE TIED CARD OF 'laws.FnSemverTildeHolds'. -/
def fnSemverTildeHoldsCard : Claim7 := { stood := { row := fnSemverTildeHoldsRow, standIns := [], harness := (true, "a22f22729e71ea010838d259ccf2f51b15a0f528c7169c3d55d9e9e5e8f39c9a"), looks := true }, kinds := [], alts := [], laidByText := true, laidKinds := [.data, .data, .data, .sentinel, .sentinel], laidTests := true, laidLooks := .later }
def FnSemverTildeHoldsCardSaid : Prop := Claim7.holds Tryd.pinned (.plain (OpenSpec.ofChange fnSemverTildeHoldsSpec)) fnSemverTildeHoldsCard

/-- THE TIED CARD OF 'laws.FnSemverTildeWindow'. -/
def fnSemverTildeWindowCard : Claim7 := { stood := { row := fnSemverTildeWindowRow, standIns := [], harness := (true, "a22f22729e71ea010838d259ccf2f51b15a0f528c7169c3d55d9e9e5e8f39c9a"), looks := true }, kinds := [], alts := [], laidByText := true, laidKinds := [.data, .data, .data, .sentinel, .sentinel], laidTests := true, laidLooks := .later }
def FnSemverTildeWindowCardSaid : Prop := Claim7.holds Tryd.pinned (.plain (OpenSpec.ofChange fnSemverTildeWindowSpec)) fnSemverTildeWindowCard

/-- THE TIED CARD OF 'laws.FnSemverTermMeta'. -/
def fnSemverTermMetaCard : Claim7 := { stood := { row := fnSemverTermMetaRow, standIns := [], harness := (true, "a22f22729e71ea010838d259ccf2f51b15a0f528c7169c3d55d9e9e5e8f39c9a"), looks := true }, kinds := [], alts := [], laidByText := true, laidKinds := [.data, .data, .data, .sentinel, .sentinel], laidTests := true, laidLooks := .later }
def FnSemverTermMetaCardSaid : Prop := Claim7.holds Tryd.pinned (.plain (OpenSpec.ofChange fnSemverTermMetaSpec)) fnSemverTermMetaCard

/-- THE TIED CARD OF 'laws.FnSemverTermOpposite'. -/
def fnSemverTermOppositeCard : Claim7 := { stood := { row := fnSemverTermOppositeRow, standIns := [], harness := (true, "a22f22729e71ea010838d259ccf2f51b15a0f528c7169c3d55d9e9e5e8f39c9a"), looks := true }, kinds := [], alts := [], laidByText := true, laidKinds := [.data, .data, .data, .sentinel, .sentinel], laidTests := true, laidLooks := .later }
def FnSemverTermOppositeCardSaid : Prop := Claim7.holds Tryd.pinned (.plain (OpenSpec.ofChange fnSemverTermOppositeSpec)) fnSemverTermOppositeCard

/-- THE TIED CARD OF 'laws.FnSemverTermPartition'. -/
def fnSemverTermPartitionCard : Claim7 := { stood := { row := fnSemverTermPartitionRow, standIns := [], harness := (true, "a22f22729e71ea010838d259ccf2f51b15a0f528c7169c3d55d9e9e5e8f39c9a"), looks := true }, kinds := [], alts := [], laidByText := true, laidKinds := [.data, .data, .data, .sentinel, .sentinel], laidTests := true, laidLooks := .later }
def FnSemverTermPartitionCardSaid : Prop := Claim7.holds Tryd.pinned (.plain (OpenSpec.ofChange fnSemverTermPartitionSpec)) fnSemverTermPartitionCard

/-- THE TIED CARD OF 'laws.FnSemverShut'. -/
def fnSemverShutCard : Claim7 := { stood := { row := fnSemverShutRow, standIns := [], harness := (true, "a22f22729e71ea010838d259ccf2f51b15a0f528c7169c3d55d9e9e5e8f39c9a"), looks := true }, kinds := [], alts := [], laidByText := true, laidKinds := [.data, .data, .data, .sentinel, .sentinel], laidTests := true, laidLooks := .later }
def FnSemverShutCardSaid : Prop := Claim7.holds Tryd.pinned (.plain (OpenSpec.ofChange fnSemverShutSpec)) fnSemverShutCard

/-- THE TIED CARD OF 'laws.FnSemverImplies'. -/
def fnSemverImpliesCard : Claim7 := { stood := { row := fnSemverImpliesRow, standIns := [], harness := (true, "a22f22729e71ea010838d259ccf2f51b15a0f528c7169c3d55d9e9e5e8f39c9a"), looks := true }, kinds := [], alts := [], laidByText := true, laidKinds := [.data, .data, .data, .sentinel, .sentinel], laidTests := true, laidLooks := .later }
def FnSemverImpliesCardSaid : Prop := Claim7.holds Tryd.pinned (.plain (OpenSpec.ofChange fnSemverImpliesSpec)) fnSemverImpliesCard

/-- THE TIED CARD OF 'laws.FnSemverTermsDistribute'. -/
def fnSemverTermsDistributeCard : Claim7 := { stood := { row := fnSemverTermsDistributeRow, standIns := [], harness := (true, "a22f22729e71ea010838d259ccf2f51b15a0f528c7169c3d55d9e9e5e8f39c9a"), looks := true }, kinds := [], alts := [], laidByText := true, laidKinds := [.data, .data, .data, .sentinel, .sentinel], laidTests := true, laidLooks := .later }
def FnSemverTermsDistributeCardSaid : Prop := Claim7.holds Tryd.pinned (.plain (OpenSpec.ofChange fnSemverTermsDistributeSpec)) fnSemverTermsDistributeCard

/-- THE TIED CARD OF 'laws.FnSemverIncMinor'. -/
def fnSemverIncMinorCard : Claim7 := { stood := { row := fnSemverIncMinorRow, standIns := [], harness := (true, "a22f22729e71ea010838d259ccf2f51b15a0f528c7169c3d55d9e9e5e8f39c9a"), looks := true }, kinds := [], alts := [], laidByText := true, laidKinds := [.data, .data, .data], laidTests := true, laidLooks := .later }
def FnSemverIncMinorCardSaid : Prop := Claim7.holds Tryd.pinned (.plain (OpenSpec.ofChange fnSemverIncMinorSpec)) fnSemverIncMinorCard

/-- THE SECOND FORM's CARD OF 'laws.FnSemverPre'. -/
def fnSemverPreUptoCard : Claim7 := { stood := { row := fnSemverPreUptoRow, standIns := [], harness := (true, "a22f22729e71ea010838d259ccf2f51b15a0f528c7169c3d55d9e9e5e8f39c9a"), looks := true }, kinds := [], alts := [], laidByText := true, laidKinds := [.data, .data, .data, .sentinel, .sentinel], laidTests := true, laidLooks := .later }
def FnSemverPreUptoCardSaid : Prop := Claim7.holds Tryd.pinned (.plain (OpenSpec.upto fnSemverPreSpec)) fnSemverPreUptoCard

/-- THE SECOND FORM's CARD OF 'laws.FnSemverPreInVersion'. -/
def fnSemverPreInVersionUptoCard : Claim7 := { stood := { row := fnSemverPreInVersionUptoRow, standIns := [], harness := (true, "a22f22729e71ea010838d259ccf2f51b15a0f528c7169c3d55d9e9e5e8f39c9a"), looks := true }, kinds := [], alts := [], laidByText := true, laidKinds := [.data, .data, .data, .sentinel, .sentinel], laidTests := true, laidLooks := .later }
def FnSemverPreInVersionUptoCardSaid : Prop := Claim7.holds Tryd.pinned (.plain (OpenSpec.upto fnSemverPreInVersionSpec)) fnSemverPreInVersionUptoCard

/-- THE SECOND FORM's CARD OF 'laws.FnSemverMetaFree'. -/
def fnSemverMetaFreeUptoCard : Claim7 := { stood := { row := fnSemverMetaFreeUptoRow, standIns := [], harness := (true, "a22f22729e71ea010838d259ccf2f51b15a0f528c7169c3d55d9e9e5e8f39c9a"), looks := true }, kinds := [], alts := [], laidByText := true, laidKinds := [.data, .data, .data, .sentinel, .sentinel], laidTests := true, laidLooks := .later }
def FnSemverMetaFreeUptoCardSaid : Prop := Claim7.holds Tryd.pinned (.plain (OpenSpec.upto fnSemverMetaFreeSpec)) fnSemverMetaFreeUptoCard

/-- THE SECOND FORM's CARD OF 'laws.FnSemverTildeHolds'. -/
def fnSemverTildeHoldsUptoCard : Claim7 := { stood := { row := fnSemverTildeHoldsUptoRow, standIns := [], harness := (true, "a22f22729e71ea010838d259ccf2f51b15a0f528c7169c3d55d9e9e5e8f39c9a"), looks := true }, kinds := [], alts := [], laidByText := true, laidKinds := [.data, .data, .data, .sentinel, .sentinel], laidTests := true, laidLooks := .later }
def FnSemverTildeHoldsUptoCardSaid : Prop := Claim7.holds Tryd.pinned (.plain (OpenSpec.upto fnSemverTildeHoldsSpec)) fnSemverTildeHoldsUptoCard

/-- THE SECOND FORM's CARD OF 'laws.FnSemverTildeWindow'. -/
def fnSemverTildeWindowUptoCard : Claim7 := { stood := { row := fnSemverTildeWindowUptoRow, standIns := [], harness := (true, "a22f22729e71ea010838d259ccf2f51b15a0f528c7169c3d55d9e9e5e8f39c9a"), looks := true }, kinds := [], alts := [], laidByText := true, laidKinds := [.data, .data, .data, .sentinel, .sentinel], laidTests := true, laidLooks := .later }
def FnSemverTildeWindowUptoCardSaid : Prop := Claim7.holds Tryd.pinned (.plain (OpenSpec.upto fnSemverTildeWindowSpec)) fnSemverTildeWindowUptoCard

/-- THE SECOND FORM's CARD OF 'laws.FnSemverTermMeta'. -/
def fnSemverTermMetaUptoCard : Claim7 := { stood := { row := fnSemverTermMetaUptoRow, standIns := [], harness := (true, "a22f22729e71ea010838d259ccf2f51b15a0f528c7169c3d55d9e9e5e8f39c9a"), looks := true }, kinds := [], alts := [], laidByText := true, laidKinds := [.data, .data, .data, .sentinel, .sentinel], laidTests := true, laidLooks := .later }
def FnSemverTermMetaUptoCardSaid : Prop := Claim7.holds Tryd.pinned (.plain (OpenSpec.upto fnSemverTermMetaSpec)) fnSemverTermMetaUptoCard

/-- THE SECOND FORM's CARD OF 'laws.FnSemverTermOpposite'. -/
def fnSemverTermOppositeUptoCard : Claim7 := { stood := { row := fnSemverTermOppositeUptoRow, standIns := [], harness := (true, "a22f22729e71ea010838d259ccf2f51b15a0f528c7169c3d55d9e9e5e8f39c9a"), looks := true }, kinds := [], alts := [], laidByText := true, laidKinds := [.data, .data, .data, .sentinel, .sentinel], laidTests := true, laidLooks := .later }
def FnSemverTermOppositeUptoCardSaid : Prop := Claim7.holds Tryd.pinned (.plain (OpenSpec.upto fnSemverTermOppositeSpec)) fnSemverTermOppositeUptoCard

/-- THE SECOND FORM's CARD OF 'laws.FnSemverTermPartition'. -/
def fnSemverTermPartitionUptoCard : Claim7 := { stood := { row := fnSemverTermPartitionUptoRow, standIns := [], harness := (true, "a22f22729e71ea010838d259ccf2f51b15a0f528c7169c3d55d9e9e5e8f39c9a"), looks := true }, kinds := [], alts := [], laidByText := true, laidKinds := [.data, .data, .data, .sentinel, .sentinel], laidTests := true, laidLooks := .later }
def FnSemverTermPartitionUptoCardSaid : Prop := Claim7.holds Tryd.pinned (.plain (OpenSpec.upto fnSemverTermPartitionSpec)) fnSemverTermPartitionUptoCard

/-- THE SECOND FORM's CARD OF 'laws.FnSemverShut'. -/
def fnSemverShutUptoCard : Claim7 := { stood := { row := fnSemverShutUptoRow, standIns := [], harness := (true, "a22f22729e71ea010838d259ccf2f51b15a0f528c7169c3d55d9e9e5e8f39c9a"), looks := true }, kinds := [], alts := [], laidByText := true, laidKinds := [.data, .data, .data, .sentinel, .sentinel], laidTests := true, laidLooks := .later }
def FnSemverShutUptoCardSaid : Prop := Claim7.holds Tryd.pinned (.plain (OpenSpec.upto fnSemverShutSpec)) fnSemverShutUptoCard

/-- THE SECOND FORM's CARD OF 'laws.FnSemverImplies'. -/
def fnSemverImpliesUptoCard : Claim7 := { stood := { row := fnSemverImpliesUptoRow, standIns := [], harness := (true, "a22f22729e71ea010838d259ccf2f51b15a0f528c7169c3d55d9e9e5e8f39c9a"), looks := true }, kinds := [], alts := [], laidByText := true, laidKinds := [.data, .data, .data, .sentinel, .sentinel], laidTests := true, laidLooks := .later }
def FnSemverImpliesUptoCardSaid : Prop := Claim7.holds Tryd.pinned (.plain (OpenSpec.upto fnSemverImpliesSpec)) fnSemverImpliesUptoCard

/-- THE SECOND FORM's CARD OF 'laws.FnSemverTermsDistribute'. -/
def fnSemverTermsDistributeUptoCard : Claim7 := { stood := { row := fnSemverTermsDistributeUptoRow, standIns := [], harness := (true, "a22f22729e71ea010838d259ccf2f51b15a0f528c7169c3d55d9e9e5e8f39c9a"), looks := true }, kinds := [], alts := [], laidByText := true, laidKinds := [.data, .data, .data, .sentinel, .sentinel], laidTests := true, laidLooks := .later }
def FnSemverTermsDistributeUptoCardSaid : Prop := Claim7.holds Tryd.pinned (.plain (OpenSpec.upto fnSemverTermsDistributeSpec)) fnSemverTermsDistributeUptoCard

/-- THE SECOND FORM's CARD OF 'laws.FnSemverIncMinor'. -/
def fnSemverIncMinorUptoCard : Claim7 := { stood := { row := fnSemverIncMinorUptoRow, standIns := [], harness := (true, "a22f22729e71ea010838d259ccf2f51b15a0f528c7169c3d55d9e9e5e8f39c9a"), looks := true }, kinds := [], alts := [], laidByText := true, laidKinds := [.data, .data, .data], laidTests := true, laidLooks := .later }
def FnSemverIncMinorUptoCardSaid : Prop := Claim7.holds Tryd.pinned (.plain (OpenSpec.upto fnSemverIncMinorSpec)) fnSemverIncMinorUptoCard
end Rows
end Go.Proofs.YtdlpcfhhpjjjmaaDoor
