/-
  DERIVED. GIVEN WITH THE SEED: THE CARDS: each row of YtgdbeiadlgkedaaDoorRows.lean that lists a variable, with what it lists TIED to the program's text (the seventh form; the later family's looks); each row that meets fmt, with fmt's text TOLD by the authors' own Lean function (tested against real Go, not proved from fmt's source: count such statements apart). THE CARD IS WHAT COUNTS. Prove the row's statement (the work); the ties are given (YtgdbeiadlgkedaaDoorTie.lean); close each card by the builder's one call (the guide's Derived/Test/ToyasCard.lean, 'card_holds'). Laid BY PROGRAM, IN A SANDBOX (cutbox-door.mjs). By AI agents, Wed Nov 11 2026. No macro, syntax, notation, axiom, sorry.
-/
import Derived.Test.YtgdbeiadlgkedaaDoorRows
import GoSem.ClaimSeven
namespace Go.Proofs.YtgdbeiadlgkedaaDoor
namespace Rows

/-- THE TIED CARD OF 'laws.FnBools'. -/
def fnBoolsCard : Claim7 := { stood := { row := fnBoolsRow, standIns := [], harness := (true, "127258a90722682ddef6ea14c6c2e607f63e7908fd4f93d5beaf3224290f49c6"), looks := true }, kinds := [], alts := [], laidByText := true, laidKinds := [.sentinel, .sentinel], laidTests := true, laidLooks := .later }
def FnBoolsCardSaid : Prop := Claim7.holds Tryd.pinned (.plain (OpenSpec.ofChange fnBoolsSpec)) fnBoolsCard

/-- THE TIED CARD OF 'laws.FnCut'. -/
def fnCutCard : Claim7 := { stood := { row := fnCutRow, standIns := [], harness := (true, "127258a90722682ddef6ea14c6c2e607f63e7908fd4f93d5beaf3224290f49c6"), looks := true }, kinds := [], alts := [], laidByText := true, laidKinds := [.sentinel, .sentinel], laidTests := true, laidLooks := .later }
def FnCutCardSaid : Prop := Claim7.holds Tryd.pinned (.plain (OpenSpec.ofChange fnCutSpec)) fnCutCard

/-- THE TIED CARD OF 'laws.FnDecode'. -/
def fnDecodeCard : Claim7 := { stood := { row := fnDecodeRow, standIns := [], harness := (true, "127258a90722682ddef6ea14c6c2e607f63e7908fd4f93d5beaf3224290f49c6"), looks := true }, kinds := [], alts := [], laidByText := true, laidKinds := [.sentinel, .sentinel], laidTests := true, laidLooks := .later }
def FnDecodeCardSaid : Prop := Claim7.holds Tryd.pinned (.plain (OpenSpec.ofChange fnDecodeSpec)) fnDecodeCard

/-- THE TIED CARD OF 'laws.FnEncode'. -/
def fnEncodeCard : Claim7 := { stood := { row := fnEncodeRow, standIns := [], harness := (true, "127258a90722682ddef6ea14c6c2e607f63e7908fd4f93d5beaf3224290f49c6"), looks := true }, kinds := [], alts := [], laidByText := true, laidKinds := [.sentinel, .sentinel], laidTests := true, laidLooks := .later }
def FnEncodeCardSaid : Prop := Claim7.holds Tryd.pinned (.plain (OpenSpec.ofChange fnEncodeSpec)) fnEncodeCard

/-- THE TIED CARD OF 'laws.FnPaneEarly'. -/
def fnPaneEarlyCard : Claim7 := { stood := { row := fnPaneEarlyRow, standIns := [], harness := (true, "127258a90722682ddef6ea14c6c2e607f63e7908fd4f93d5beaf3224290f49c6"), looks := true }, kinds := [], alts := [], laidByText := true, laidKinds := [.sentinel, .sentinel], laidTests := true, laidLooks := .later }
def FnPaneEarlyCardSaid : Prop := Claim7.holds Tryd.pinned (.plain (OpenSpec.ofChange fnPaneEarlySpec)) fnPaneEarlyCard

/-- THE TIED CARD OF 'laws.FnThereBack'. -/
def fnThereBackCard : Claim7 := { stood := { row := fnThereBackRow, standIns := [], harness := (true, "127258a90722682ddef6ea14c6c2e607f63e7908fd4f93d5beaf3224290f49c6"), looks := true }, kinds := [], alts := [], laidByText := true, laidKinds := [.sentinel, .sentinel], laidTests := true, laidLooks := .later }
def FnThereBackCardSaid : Prop := Claim7.holds Tryd.pinned (.plain (OpenSpec.ofChange fnThereBackSpec)) fnThereBackCard

/-- THE TIED CARD OF 'laws.FnTimeOrder'. -/
def fnTimeOrderCard : Claim7 := { stood := { row := fnTimeOrderRow, standIns := [], harness := (true, "127258a90722682ddef6ea14c6c2e607f63e7908fd4f93d5beaf3224290f49c6"), looks := true }, kinds := [], alts := [], laidByText := true, laidKinds := [.sentinel, .sentinel], laidTests := true, laidLooks := .later }
def FnTimeOrderCardSaid : Prop := Claim7.holds Tryd.pinned (.plain (OpenSpec.ofChange fnTimeOrderSpec)) fnTimeOrderCard

/-- THE TIED CARD OF 'laws.FnVarLength'. -/
def fnVarLengthCard : Claim7 := { stood := { row := fnVarLengthRow, standIns := [], harness := (true, "127258a90722682ddef6ea14c6c2e607f63e7908fd4f93d5beaf3224290f49c6"), looks := true }, kinds := [], alts := [], laidByText := true, laidKinds := [.sentinel, .sentinel], laidTests := true, laidLooks := .later }
def FnVarLengthCardSaid : Prop := Claim7.holds Tryd.pinned (.plain (OpenSpec.ofChange fnVarLengthSpec)) fnVarLengthCard

/-- THE TIED CARD OF 'laws.FnVarLong'. -/
def fnVarLongCard : Claim7 := { stood := { row := fnVarLongRow, standIns := [], harness := (true, "127258a90722682ddef6ea14c6c2e607f63e7908fd4f93d5beaf3224290f49c6"), looks := true }, kinds := [], alts := [], laidByText := true, laidKinds := [.sentinel, .sentinel], laidTests := true, laidLooks := .later }
def FnVarLongCardSaid : Prop := Claim7.holds Tryd.pinned (.plain (OpenSpec.ofChange fnVarLongSpec)) fnVarLongCard

/-- THE TIED CARD OF 'laws.FnPaneOf'. -/
def fnPaneOfCard : Claim7 := { stood := { row := fnPaneOfRow, standIns := [], harness := (true, "127258a90722682ddef6ea14c6c2e607f63e7908fd4f93d5beaf3224290f49c6"), looks := true }, kinds := [], alts := [], laidByText := true, laidKinds := [.sentinel, .sentinel], laidTests := true, laidLooks := .later }
def FnPaneOfCardSaid : Prop := Claim7.holds Tryd.pinned (.plain (OpenSpec.ofChange fnPaneOfSpec)) fnPaneOfCard

/-- THE TIED CARD OF 'laws.FnReadN'. -/
def fnReadNCard : Claim7 := { stood := { row := fnReadNRow, standIns := [], harness := (true, "127258a90722682ddef6ea14c6c2e607f63e7908fd4f93d5beaf3224290f49c6"), looks := true }, kinds := [], alts := [], laidByText := true, laidKinds := [.sentinel, .sentinel], laidTests := true, laidLooks := .later }
def FnReadNCardSaid : Prop := Claim7.holds Tryd.pinned (.plain (OpenSpec.ofChange fnReadNSpec)) fnReadNCard

/-- THE TIED CARD OF 'laws.FnFieldNil'. -/
def fnFieldNilCard : Claim7 := { stood := { row := fnFieldNilRow, standIns := [], harness := (true, "127258a90722682ddef6ea14c6c2e607f63e7908fd4f93d5beaf3224290f49c6"), looks := true }, kinds := [], alts := [], laidByText := true, laidKinds := [.sentinel, .sentinel], laidTests := true, laidLooks := .later }
def FnFieldNilCardSaid : Prop := Claim7.holds Tryd.pinned (.plain (OpenSpec.ofChange fnFieldNilSpec)) fnFieldNilCard

/-- THE TIED CARD OF 'laws.FnRowSimpleRead'. -/
def fnRowSimpleReadCard : Claim7 := { stood := { row := fnRowSimpleReadRow, standIns := [], harness := (true, "127258a90722682ddef6ea14c6c2e607f63e7908fd4f93d5beaf3224290f49c6"), looks := true }, kinds := [], alts := [], laidByText := true, laidKinds := [.sentinel, .sentinel], laidTests := true, laidLooks := .later }
def FnRowSimpleReadCardSaid : Prop := Claim7.holds Tryd.pinned (.plain (OpenSpec.ofChange fnRowSimpleReadSpec)) fnRowSimpleReadCard

/-- THE TIED CARD OF 'laws.FnRowRead'. -/
def fnRowReadCard : Claim7 := { stood := { row := fnRowReadRow, standIns := [], harness := (true, "127258a90722682ddef6ea14c6c2e607f63e7908fd4f93d5beaf3224290f49c6"), looks := true }, kinds := [], alts := [], laidByText := true, laidKinds := [.sentinel, .sentinel], laidTests := true, laidLooks := .later }
def FnRowReadCardSaid : Prop := Claim7.holds Tryd.pinned (.plain (OpenSpec.ofChange fnRowReadSpec)) fnRowReadCard

/-- THE TIED CARD OF 'laws.FnRowSimple'. -/
def fnRowSimpleCard : Claim7 := { stood := { row := fnRowSimpleRow, standIns := [], harness := (true, "127258a90722682ddef6ea14c6c2e607f63e7908fd4f93d5beaf3224290f49c6"), looks := true }, kinds := [], alts := [], laidByText := true, laidKinds := [.sentinel, .sentinel], laidTests := true, laidLooks := .later }
def FnRowSimpleCardSaid : Prop := Claim7.holds Tryd.pinned (.plain (OpenSpec.ofChange fnRowSimpleSpec)) fnRowSimpleCard

/-- THE TIED CARD OF 'laws.FnRowHeader'. -/
def fnRowHeaderCard : Claim7 := { stood := { row := fnRowHeaderRow, standIns := [], harness := (true, "127258a90722682ddef6ea14c6c2e607f63e7908fd4f93d5beaf3224290f49c6"), looks := true }, kinds := [], alts := [], laidByText := true, laidKinds := [.sentinel, .sentinel], laidTests := true, laidLooks := .later }
def FnRowHeaderCardSaid : Prop := Claim7.holds Tryd.pinned (.plain (OpenSpec.ofChange fnRowHeaderSpec)) fnRowHeaderCard

/-- THE TIED CARD OF 'laws.FnRowBack'. -/
def fnRowBackCard : Claim7 := { stood := { row := fnRowBackRow, standIns := [], harness := (true, "127258a90722682ddef6ea14c6c2e607f63e7908fd4f93d5beaf3224290f49c6"), looks := true }, kinds := [], alts := [], laidByText := true, laidKinds := [.sentinel, .sentinel], laidTests := true, laidLooks := .later }
def FnRowBackCardSaid : Prop := Claim7.holds Tryd.pinned (.plain (OpenSpec.ofChange fnRowBackSpec)) fnRowBackCard

/-- THE SECOND FORM's CARD OF 'laws.FnBools'. -/
def fnBoolsUptoCard : Claim7 := { stood := { row := fnBoolsUptoRow, standIns := [], harness := (true, "127258a90722682ddef6ea14c6c2e607f63e7908fd4f93d5beaf3224290f49c6"), looks := true }, kinds := [], alts := [], laidByText := true, laidKinds := [.sentinel, .sentinel], laidTests := true, laidLooks := .later }
def FnBoolsUptoCardSaid : Prop := Claim7.holds Tryd.pinned (.plain (OpenSpec.upto fnBoolsSpec)) fnBoolsUptoCard

/-- THE SECOND FORM's CARD OF 'laws.FnCut'. -/
def fnCutUptoCard : Claim7 := { stood := { row := fnCutUptoRow, standIns := [], harness := (true, "127258a90722682ddef6ea14c6c2e607f63e7908fd4f93d5beaf3224290f49c6"), looks := true }, kinds := [], alts := [], laidByText := true, laidKinds := [.sentinel, .sentinel], laidTests := true, laidLooks := .later }
def FnCutUptoCardSaid : Prop := Claim7.holds Tryd.pinned (.plain (OpenSpec.upto fnCutSpec)) fnCutUptoCard

/-- THE SECOND FORM's CARD OF 'laws.FnDecode'. -/
def fnDecodeUptoCard : Claim7 := { stood := { row := fnDecodeUptoRow, standIns := [], harness := (true, "127258a90722682ddef6ea14c6c2e607f63e7908fd4f93d5beaf3224290f49c6"), looks := true }, kinds := [], alts := [], laidByText := true, laidKinds := [.sentinel, .sentinel], laidTests := true, laidLooks := .later }
def FnDecodeUptoCardSaid : Prop := Claim7.holds Tryd.pinned (.plain (OpenSpec.upto fnDecodeSpec)) fnDecodeUptoCard

/-- THE SECOND FORM's CARD OF 'laws.FnEncode'. -/
def fnEncodeUptoCard : Claim7 := { stood := { row := fnEncodeUptoRow, standIns := [], harness := (true, "127258a90722682ddef6ea14c6c2e607f63e7908fd4f93d5beaf3224290f49c6"), looks := true }, kinds := [], alts := [], laidByText := true, laidKinds := [.sentinel, .sentinel], laidTests := true, laidLooks := .later }
def FnEncodeUptoCardSaid : Prop := Claim7.holds Tryd.pinned (.plain (OpenSpec.upto fnEncodeSpec)) fnEncodeUptoCard

/-- THE SECOND FORM's CARD OF 'laws.FnPaneEarly'. -/
def fnPaneEarlyUptoCard : Claim7 := { stood := { row := fnPaneEarlyUptoRow, standIns := [], harness := (true, "127258a90722682ddef6ea14c6c2e607f63e7908fd4f93d5beaf3224290f49c6"), looks := true }, kinds := [], alts := [], laidByText := true, laidKinds := [.sentinel, .sentinel], laidTests := true, laidLooks := .later }
def FnPaneEarlyUptoCardSaid : Prop := Claim7.holds Tryd.pinned (.plain (OpenSpec.upto fnPaneEarlySpec)) fnPaneEarlyUptoCard

/-- THE SECOND FORM's CARD OF 'laws.FnThereBack'. -/
def fnThereBackUptoCard : Claim7 := { stood := { row := fnThereBackUptoRow, standIns := [], harness := (true, "127258a90722682ddef6ea14c6c2e607f63e7908fd4f93d5beaf3224290f49c6"), looks := true }, kinds := [], alts := [], laidByText := true, laidKinds := [.sentinel, .sentinel], laidTests := true, laidLooks := .later }
def FnThereBackUptoCardSaid : Prop := Claim7.holds Tryd.pinned (.plain (OpenSpec.upto fnThereBackSpec)) fnThereBackUptoCard

/-- THE SECOND FORM's CARD OF 'laws.FnTimeOrder'. -/
def fnTimeOrderUptoCard : Claim7 := { stood := { row := fnTimeOrderUptoRow, standIns := [], harness := (true, "127258a90722682ddef6ea14c6c2e607f63e7908fd4f93d5beaf3224290f49c6"), looks := true }, kinds := [], alts := [], laidByText := true, laidKinds := [.sentinel, .sentinel], laidTests := true, laidLooks := .later }
def FnTimeOrderUptoCardSaid : Prop := Claim7.holds Tryd.pinned (.plain (OpenSpec.upto fnTimeOrderSpec)) fnTimeOrderUptoCard

/-- THE SECOND FORM's CARD OF 'laws.FnVarLength'. -/
def fnVarLengthUptoCard : Claim7 := { stood := { row := fnVarLengthUptoRow, standIns := [], harness := (true, "127258a90722682ddef6ea14c6c2e607f63e7908fd4f93d5beaf3224290f49c6"), looks := true }, kinds := [], alts := [], laidByText := true, laidKinds := [.sentinel, .sentinel], laidTests := true, laidLooks := .later }
def FnVarLengthUptoCardSaid : Prop := Claim7.holds Tryd.pinned (.plain (OpenSpec.upto fnVarLengthSpec)) fnVarLengthUptoCard

/-- THE SECOND FORM's CARD OF 'laws.FnVarLong'. -/
def fnVarLongUptoCard : Claim7 := { stood := { row := fnVarLongUptoRow, standIns := [], harness := (true, "127258a90722682ddef6ea14c6c2e607f63e7908fd4f93d5beaf3224290f49c6"), looks := true }, kinds := [], alts := [], laidByText := true, laidKinds := [.sentinel, .sentinel], laidTests := true, laidLooks := .later }
def FnVarLongUptoCardSaid : Prop := Claim7.holds Tryd.pinned (.plain (OpenSpec.upto fnVarLongSpec)) fnVarLongUptoCard

/-- THE SECOND FORM's CARD OF 'laws.FnPaneOf'. -/
def fnPaneOfUptoCard : Claim7 := { stood := { row := fnPaneOfUptoRow, standIns := [], harness := (true, "127258a90722682ddef6ea14c6c2e607f63e7908fd4f93d5beaf3224290f49c6"), looks := true }, kinds := [], alts := [], laidByText := true, laidKinds := [.sentinel, .sentinel], laidTests := true, laidLooks := .later }
def FnPaneOfUptoCardSaid : Prop := Claim7.holds Tryd.pinned (.plain (OpenSpec.upto fnPaneOfSpec)) fnPaneOfUptoCard

/-- THE SECOND FORM's CARD OF 'laws.FnReadN'. -/
def fnReadNUptoCard : Claim7 := { stood := { row := fnReadNUptoRow, standIns := [], harness := (true, "127258a90722682ddef6ea14c6c2e607f63e7908fd4f93d5beaf3224290f49c6"), looks := true }, kinds := [], alts := [], laidByText := true, laidKinds := [.sentinel, .sentinel], laidTests := true, laidLooks := .later }
def FnReadNUptoCardSaid : Prop := Claim7.holds Tryd.pinned (.plain (OpenSpec.upto fnReadNSpec)) fnReadNUptoCard

/-- THE SECOND FORM's CARD OF 'laws.FnFieldNil'. -/
def fnFieldNilUptoCard : Claim7 := { stood := { row := fnFieldNilUptoRow, standIns := [], harness := (true, "127258a90722682ddef6ea14c6c2e607f63e7908fd4f93d5beaf3224290f49c6"), looks := true }, kinds := [], alts := [], laidByText := true, laidKinds := [.sentinel, .sentinel], laidTests := true, laidLooks := .later }
def FnFieldNilUptoCardSaid : Prop := Claim7.holds Tryd.pinned (.plain (OpenSpec.upto fnFieldNilSpec)) fnFieldNilUptoCard

/-- THE SECOND FORM's CARD OF 'laws.FnRowSimpleRead'. -/
def fnRowSimpleReadUptoCard : Claim7 := { stood := { row := fnRowSimpleReadUptoRow, standIns := [], harness := (true, "127258a90722682ddef6ea14c6c2e607f63e7908fd4f93d5beaf3224290f49c6"), looks := true }, kinds := [], alts := [], laidByText := true, laidKinds := [.sentinel, .sentinel], laidTests := true, laidLooks := .later }
def FnRowSimpleReadUptoCardSaid : Prop := Claim7.holds Tryd.pinned (.plain (OpenSpec.upto fnRowSimpleReadSpec)) fnRowSimpleReadUptoCard

/-- THE SECOND FORM's CARD OF 'laws.FnRowRead'. -/
def fnRowReadUptoCard : Claim7 := { stood := { row := fnRowReadUptoRow, standIns := [], harness := (true, "127258a90722682ddef6ea14c6c2e607f63e7908fd4f93d5beaf3224290f49c6"), looks := true }, kinds := [], alts := [], laidByText := true, laidKinds := [.sentinel, .sentinel], laidTests := true, laidLooks := .later }
def FnRowReadUptoCardSaid : Prop := Claim7.holds Tryd.pinned (.plain (OpenSpec.upto fnRowReadSpec)) fnRowReadUptoCard

/-- THE SECOND FORM's CARD OF 'laws.FnRowSimple'. -/
def fnRowSimpleUptoCard : Claim7 := { stood := { row := fnRowSimpleUptoRow, standIns := [], harness := (true, "127258a90722682ddef6ea14c6c2e607f63e7908fd4f93d5beaf3224290f49c6"), looks := true }, kinds := [], alts := [], laidByText := true, laidKinds := [.sentinel, .sentinel], laidTests := true, laidLooks := .later }
def FnRowSimpleUptoCardSaid : Prop := Claim7.holds Tryd.pinned (.plain (OpenSpec.upto fnRowSimpleSpec)) fnRowSimpleUptoCard

/-- THE SECOND FORM's CARD OF 'laws.FnRowHeader'. -/
def fnRowHeaderUptoCard : Claim7 := { stood := { row := fnRowHeaderUptoRow, standIns := [], harness := (true, "127258a90722682ddef6ea14c6c2e607f63e7908fd4f93d5beaf3224290f49c6"), looks := true }, kinds := [], alts := [], laidByText := true, laidKinds := [.sentinel, .sentinel], laidTests := true, laidLooks := .later }
def FnRowHeaderUptoCardSaid : Prop := Claim7.holds Tryd.pinned (.plain (OpenSpec.upto fnRowHeaderSpec)) fnRowHeaderUptoCard

/-- THE SECOND FORM's CARD OF 'laws.FnRowBack'. -/
def fnRowBackUptoCard : Claim7 := { stood := { row := fnRowBackUptoRow, standIns := [], harness := (true, "127258a90722682ddef6ea14c6c2e607f63e7908fd4f93d5beaf3224290f49c6"), looks := true }, kinds := [], alts := [], laidByText := true, laidKinds := [.sentinel, .sentinel], laidTests := true, laidLooks := .later }
def FnRowBackUptoCardSaid : Prop := Claim7.holds Tryd.pinned (.plain (OpenSpec.upto fnRowBackSpec)) fnRowBackUptoCard
end Rows
end Go.Proofs.YtgdbeiadlgkedaaDoor
