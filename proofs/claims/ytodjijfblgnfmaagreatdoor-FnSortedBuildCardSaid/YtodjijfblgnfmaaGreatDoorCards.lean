/-
  DERIVED. GIVEN WITH THE SEED: THE CARDS: each row of YtodjijfblgnfmaaGreatDoorRows.lean that lists a variable, with what it lists TIED to the program's text (the seventh form; the later family's looks); each row that meets fmt, with fmt's text TOLD by the authors' own Lean function (tested against real Go, not proved from fmt's source: count such statements apart). THE CARD IS WHAT COUNTS. Prove the row's statement (the work); the ties are given (YtodjijfblgnfmaaGreatDoorTie.lean); close each card by the builder's one call (the guide's Derived/Test/ToyasCard.lean, 'card_holds'). Laid BY PROGRAM, IN A SANDBOX (cutbox-door.mjs). By AI agents, Wed Nov 11 2026. No macro, syntax, notation, axiom, sorry.
-/
import Derived.Test.YtodjijfblgnfmaaGreatDoorRows
import GoSem.ClaimSeven
namespace Go.Proofs.YtodjijfblgnfmaaGreatDoor
namespace Rows

/-- THE TIED CARD OF 'laws.FnSorted'. -/
def fnSortedCard : Claim7 := { stood := { row := fnSortedRow, standIns := [], harness := (true, "b77c031a9309509560a12c06badec3c13cbce84616160ed1cdc28dbca5189727"), looks := true }, kinds := [], alts := [], laidByText := true, laidKinds := [.data, .data, .data], laidTests := true, laidLooks := .later }
def FnSortedCardSaid : Prop := Claim7.holds Tryz.pinned (.plain (OpenSpec.ofChange fnSortedSpec)) fnSortedCard

/-- THE TIED CARD OF 'laws.FnSortedInto'. -/
def fnSortedIntoCard : Claim7 := { stood := { row := fnSortedIntoRow, standIns := [], harness := (true, "b77c031a9309509560a12c06badec3c13cbce84616160ed1cdc28dbca5189727"), looks := true }, kinds := [], alts := [], laidByText := true, laidKinds := [.data, .data, .data], laidTests := true, laidLooks := .later }
def FnSortedIntoCardSaid : Prop := Claim7.holds Tryz.pinned (.plain (OpenSpec.ofChange fnSortedIntoSpec)) fnSortedIntoCard

/-- THE TIED CARD OF 'laws.FnSortedOwn'. -/
def fnSortedOwnCard : Claim7 := { stood := { row := fnSortedOwnRow, standIns := [], harness := (true, "b77c031a9309509560a12c06badec3c13cbce84616160ed1cdc28dbca5189727"), looks := true }, kinds := [], alts := [], laidByText := true, laidKinds := [.data, .data, .data], laidTests := true, laidLooks := .later }
def FnSortedOwnCardSaid : Prop := Claim7.holds Tryz.pinned (.plain (OpenSpec.ofChange fnSortedOwnSpec)) fnSortedOwnCard

/-- THE TIED CARD OF 'laws.FnSortedTurned'. -/
def fnSortedTurnedCard : Claim7 := { stood := { row := fnSortedTurnedRow, standIns := [], harness := (true, "b77c031a9309509560a12c06badec3c13cbce84616160ed1cdc28dbca5189727"), looks := true }, kinds := [], alts := [], laidByText := true, laidKinds := [.data, .data, .data], laidTests := true, laidLooks := .later }
def FnSortedTurnedCardSaid : Prop := Claim7.holds Tryz.pinned (.plain (OpenSpec.ofChange fnSortedTurnedSpec)) fnSortedTurnedCard

/-- THE TIED CARD OF 'laws.FnSortedUndo'. -/
def fnSortedUndoCard : Claim7 := { stood := { row := fnSortedUndoRow, standIns := [], harness := (true, "b77c031a9309509560a12c06badec3c13cbce84616160ed1cdc28dbca5189727"), looks := true }, kinds := [], alts := [], laidByText := true, laidKinds := [.data, .data, .data], laidTests := true, laidLooks := .later }
def FnSortedUndoCardSaid : Prop := Claim7.holds Tryz.pinned (.plain (OpenSpec.ofChange fnSortedUndoSpec)) fnSortedUndoCard

/-- THE TIED CARD OF 'laws.FnSortedOf'. -/
def fnSortedOfCard : Claim7 := { stood := { row := fnSortedOfRow, standIns := [], harness := (true, "b77c031a9309509560a12c06badec3c13cbce84616160ed1cdc28dbca5189727"), looks := true }, kinds := [], alts := [], laidByText := true, laidKinds := [.data, .data, .data], laidTests := true, laidLooks := .later }
def FnSortedOfCardSaid : Prop := Claim7.holds Tryz.pinned (.plain (OpenSpec.ofChange fnSortedOfSpec)) fnSortedOfCard

/-- THE TIED CARD OF 'laws.FnSortedBuild'. -/
def fnSortedBuildCard : Claim7 := { stood := { row := fnSortedBuildRow, standIns := [], harness := (true, "b77c031a9309509560a12c06badec3c13cbce84616160ed1cdc28dbca5189727"), looks := true }, kinds := [], alts := [], laidByText := true, laidKinds := [.data, .data, .data], laidTests := true, laidLooks := .later }
def FnSortedBuildCardSaid : Prop := Claim7.holds Tryz.pinned (.plain (OpenSpec.ofChange fnSortedBuildSpec)) fnSortedBuildCard

/-- THE TIED CARD OF 'laws.FnSortedKeys'. -/
def fnSortedKeysCard : Claim7 := { stood := { row := fnSortedKeysRow, standIns := [], harness := (true, "b77c031a9309509560a12c06badec3c13cbce84616160ed1cdc28dbca5189727"), looks := true }, kinds := [], alts := [], laidByText := true, laidKinds := [.data, .data, .data], laidTests := true, laidLooks := .later }
def FnSortedKeysCardSaid : Prop := Claim7.holds Tryz.pinned (.plain (OpenSpec.ofChange fnSortedKeysSpec)) fnSortedKeysCard

/-- THE TIED CARD OF 'laws.FnSortedSeek'. -/
def fnSortedSeekCard : Claim7 := { stood := { row := fnSortedSeekRow, standIns := [], harness := (true, "b77c031a9309509560a12c06badec3c13cbce84616160ed1cdc28dbca5189727"), looks := true }, kinds := [], alts := [], laidByText := true, laidKinds := [.data, .data, .data], laidTests := true, laidLooks := .later }
def FnSortedSeekCardSaid : Prop := Claim7.holds Tryz.pinned (.plain (OpenSpec.ofChange fnSortedSeekSpec)) fnSortedSeekCard

/-- THE SECOND FORM's CARD OF 'laws.FnSorted'. -/
def fnSortedUptoCard : Claim7 := { stood := { row := fnSortedUptoRow, standIns := [], harness := (true, "b77c031a9309509560a12c06badec3c13cbce84616160ed1cdc28dbca5189727"), looks := true }, kinds := [], alts := [], laidByText := true, laidKinds := [.data, .data, .data], laidTests := true, laidLooks := .later }
def FnSortedUptoCardSaid : Prop := Claim7.holds Tryz.pinned (.plain (OpenSpec.upto fnSortedSpec)) fnSortedUptoCard

/-- THE SECOND FORM's CARD OF 'laws.FnSortedInto'. -/
def fnSortedIntoUptoCard : Claim7 := { stood := { row := fnSortedIntoUptoRow, standIns := [], harness := (true, "b77c031a9309509560a12c06badec3c13cbce84616160ed1cdc28dbca5189727"), looks := true }, kinds := [], alts := [], laidByText := true, laidKinds := [.data, .data, .data], laidTests := true, laidLooks := .later }
def FnSortedIntoUptoCardSaid : Prop := Claim7.holds Tryz.pinned (.plain (OpenSpec.upto fnSortedIntoSpec)) fnSortedIntoUptoCard

/-- THE SECOND FORM's CARD OF 'laws.FnSortedOwn'. -/
def fnSortedOwnUptoCard : Claim7 := { stood := { row := fnSortedOwnUptoRow, standIns := [], harness := (true, "b77c031a9309509560a12c06badec3c13cbce84616160ed1cdc28dbca5189727"), looks := true }, kinds := [], alts := [], laidByText := true, laidKinds := [.data, .data, .data], laidTests := true, laidLooks := .later }
def FnSortedOwnUptoCardSaid : Prop := Claim7.holds Tryz.pinned (.plain (OpenSpec.upto fnSortedOwnSpec)) fnSortedOwnUptoCard

/-- THE SECOND FORM's CARD OF 'laws.FnSortedTurned'. -/
def fnSortedTurnedUptoCard : Claim7 := { stood := { row := fnSortedTurnedUptoRow, standIns := [], harness := (true, "b77c031a9309509560a12c06badec3c13cbce84616160ed1cdc28dbca5189727"), looks := true }, kinds := [], alts := [], laidByText := true, laidKinds := [.data, .data, .data], laidTests := true, laidLooks := .later }
def FnSortedTurnedUptoCardSaid : Prop := Claim7.holds Tryz.pinned (.plain (OpenSpec.upto fnSortedTurnedSpec)) fnSortedTurnedUptoCard

/-- THE SECOND FORM's CARD OF 'laws.FnSortedUndo'. -/
def fnSortedUndoUptoCard : Claim7 := { stood := { row := fnSortedUndoUptoRow, standIns := [], harness := (true, "b77c031a9309509560a12c06badec3c13cbce84616160ed1cdc28dbca5189727"), looks := true }, kinds := [], alts := [], laidByText := true, laidKinds := [.data, .data, .data], laidTests := true, laidLooks := .later }
def FnSortedUndoUptoCardSaid : Prop := Claim7.holds Tryz.pinned (.plain (OpenSpec.upto fnSortedUndoSpec)) fnSortedUndoUptoCard

/-- THE SECOND FORM's CARD OF 'laws.FnSortedOf'. -/
def fnSortedOfUptoCard : Claim7 := { stood := { row := fnSortedOfUptoRow, standIns := [], harness := (true, "b77c031a9309509560a12c06badec3c13cbce84616160ed1cdc28dbca5189727"), looks := true }, kinds := [], alts := [], laidByText := true, laidKinds := [.data, .data, .data], laidTests := true, laidLooks := .later }
def FnSortedOfUptoCardSaid : Prop := Claim7.holds Tryz.pinned (.plain (OpenSpec.upto fnSortedOfSpec)) fnSortedOfUptoCard

/-- THE SECOND FORM's CARD OF 'laws.FnSortedBuild'. -/
def fnSortedBuildUptoCard : Claim7 := { stood := { row := fnSortedBuildUptoRow, standIns := [], harness := (true, "b77c031a9309509560a12c06badec3c13cbce84616160ed1cdc28dbca5189727"), looks := true }, kinds := [], alts := [], laidByText := true, laidKinds := [.data, .data, .data], laidTests := true, laidLooks := .later }
def FnSortedBuildUptoCardSaid : Prop := Claim7.holds Tryz.pinned (.plain (OpenSpec.upto fnSortedBuildSpec)) fnSortedBuildUptoCard

/-- THE SECOND FORM's CARD OF 'laws.FnSortedKeys'. -/
def fnSortedKeysUptoCard : Claim7 := { stood := { row := fnSortedKeysUptoRow, standIns := [], harness := (true, "b77c031a9309509560a12c06badec3c13cbce84616160ed1cdc28dbca5189727"), looks := true }, kinds := [], alts := [], laidByText := true, laidKinds := [.data, .data, .data], laidTests := true, laidLooks := .later }
def FnSortedKeysUptoCardSaid : Prop := Claim7.holds Tryz.pinned (.plain (OpenSpec.upto fnSortedKeysSpec)) fnSortedKeysUptoCard

/-- THE SECOND FORM's CARD OF 'laws.FnSortedSeek'. -/
def fnSortedSeekUptoCard : Claim7 := { stood := { row := fnSortedSeekUptoRow, standIns := [], harness := (true, "b77c031a9309509560a12c06badec3c13cbce84616160ed1cdc28dbca5189727"), looks := true }, kinds := [], alts := [], laidByText := true, laidKinds := [.data, .data, .data], laidTests := true, laidLooks := .later }
def FnSortedSeekUptoCardSaid : Prop := Claim7.holds Tryz.pinned (.plain (OpenSpec.upto fnSortedSeekSpec)) fnSortedSeekUptoCard
end Rows
end Go.Proofs.YtodjijfblgnfmaaGreatDoor
