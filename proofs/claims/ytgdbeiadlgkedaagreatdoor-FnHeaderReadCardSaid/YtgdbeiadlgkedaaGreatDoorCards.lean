/-
  DERIVED. GIVEN WITH THE SEED: THE CARDS: each row of YtgdbeiadlgkedaaGreatDoorRows.lean that lists a variable, with what it lists TIED to the program's text (the seventh form; the later family's looks); each row that meets fmt, with fmt's text TOLD by the authors' own Lean function (tested against real Go, not proved from fmt's source: count such statements apart). THE CARD IS WHAT COUNTS. Prove the row's statement (the work); the ties are given (YtgdbeiadlgkedaaGreatDoorTie.lean); close each card by the builder's one call (the guide's Derived/Test/ToyasCard.lean, 'card_holds'). Laid BY PROGRAM, IN A SANDBOX (cutbox-door.mjs). By AI agents, Wed Nov 11 2026. No macro, syntax, notation, axiom, sorry.
-/
import Derived.Test.YtgdbeiadlgkedaaGreatDoorRows
import GoSem.ClaimSeven
namespace Go.Proofs.YtgdbeiadlgkedaaGreatDoor
namespace Rows

/-- THE TIED CARD OF 'laws.FnWindowOne'. -/
def fnWindowOneCard : Claim7 := { stood := { row := fnWindowOneRow, standIns := [], harness := (true, "52f379ea6a6921d73cb0b973d6f406643499f7ad51bc9d12ec6d17b2372a08fb"), looks := true }, kinds := [], alts := [], laidByText := true, laidKinds := [.sentinel, .sentinel], laidTests := true, laidLooks := .later }
def FnWindowOneCardSaid : Prop := Claim7.holds Tryz.pinned (.plain (OpenSpec.ofChange fnWindowOneSpec)) fnWindowOneCard

/-- THE TIED CARD OF 'laws.FnWindowsBack'. -/
def fnWindowsBackCard : Claim7 := { stood := { row := fnWindowsBackRow, standIns := [], harness := (true, "52f379ea6a6921d73cb0b973d6f406643499f7ad51bc9d12ec6d17b2372a08fb"), looks := true }, kinds := [], alts := [], laidByText := true, laidKinds := [.sentinel, .sentinel], laidTests := true, laidLooks := .later }
def FnWindowsBackCardSaid : Prop := Claim7.holds Tryz.pinned (.plain (OpenSpec.ofChange fnWindowsBackSpec)) fnWindowsBackCard

/-- THE TIED CARD OF 'laws.FnHeaderBack'. -/
def fnHeaderBackCard : Claim7 := { stood := { row := fnHeaderBackRow, standIns := [], harness := (true, "52f379ea6a6921d73cb0b973d6f406643499f7ad51bc9d12ec6d17b2372a08fb"), looks := true }, kinds := [], alts := [], laidByText := true, laidKinds := [.sentinel, .sentinel], laidTests := true, laidLooks := .later }
def FnHeaderBackCardSaid : Prop := Claim7.holds Tryz.pinned (.plain (OpenSpec.ofChange fnHeaderBackSpec)) fnHeaderBackCard

/-- THE TIED CARD OF 'laws.FnWindows'. -/
def fnWindowsCard : Claim7 := { stood := { row := fnWindowsRow, standIns := [], harness := (true, "52f379ea6a6921d73cb0b973d6f406643499f7ad51bc9d12ec6d17b2372a08fb"), looks := true }, kinds := [], alts := [], laidByText := true, laidKinds := [.sentinel, .sentinel], laidTests := true, laidLooks := .later }
def FnWindowsCardSaid : Prop := Claim7.holds Tryz.pinned (.plain (OpenSpec.ofChange fnWindowsSpec)) fnWindowsCard

/-- THE TIED CARD OF 'laws.FnHeader'. -/
def fnHeaderCard : Claim7 := { stood := { row := fnHeaderRow, standIns := [], harness := (true, "52f379ea6a6921d73cb0b973d6f406643499f7ad51bc9d12ec6d17b2372a08fb"), looks := true }, kinds := [], alts := [], laidByText := true, laidKinds := [.sentinel, .sentinel], laidTests := true, laidLooks := .later }
def FnHeaderCardSaid : Prop := Claim7.holds Tryz.pinned (.plain (OpenSpec.ofChange fnHeaderSpec)) fnHeaderCard

/-- THE TIED CARD OF 'laws.FnWindowsRead'. -/
def fnWindowsReadCard : Claim7 := { stood := { row := fnWindowsReadRow, standIns := [], harness := (true, "52f379ea6a6921d73cb0b973d6f406643499f7ad51bc9d12ec6d17b2372a08fb"), looks := true }, kinds := [], alts := [], laidByText := true, laidKinds := [.sentinel, .sentinel], laidTests := true, laidLooks := .later }
def FnWindowsReadCardSaid : Prop := Claim7.holds Tryz.pinned (.plain (OpenSpec.ofChange fnWindowsReadSpec)) fnWindowsReadCard

/-- THE TIED CARD OF 'laws.FnHeaderRead'. -/
def fnHeaderReadCard : Claim7 := { stood := { row := fnHeaderReadRow, standIns := [], harness := (true, "52f379ea6a6921d73cb0b973d6f406643499f7ad51bc9d12ec6d17b2372a08fb"), looks := true }, kinds := [], alts := [], laidByText := true, laidKinds := [.sentinel, .sentinel], laidTests := true, laidLooks := .later }
def FnHeaderReadCardSaid : Prop := Claim7.holds Tryz.pinned (.plain (OpenSpec.ofChange fnHeaderReadSpec)) fnHeaderReadCard

/-- THE SECOND FORM's CARD OF 'laws.FnWindowOne'. -/
def fnWindowOneUptoCard : Claim7 := { stood := { row := fnWindowOneUptoRow, standIns := [], harness := (true, "52f379ea6a6921d73cb0b973d6f406643499f7ad51bc9d12ec6d17b2372a08fb"), looks := true }, kinds := [], alts := [], laidByText := true, laidKinds := [.sentinel, .sentinel], laidTests := true, laidLooks := .later }
def FnWindowOneUptoCardSaid : Prop := Claim7.holds Tryz.pinned (.plain (OpenSpec.upto fnWindowOneSpec)) fnWindowOneUptoCard

/-- THE SECOND FORM's CARD OF 'laws.FnWindowsBack'. -/
def fnWindowsBackUptoCard : Claim7 := { stood := { row := fnWindowsBackUptoRow, standIns := [], harness := (true, "52f379ea6a6921d73cb0b973d6f406643499f7ad51bc9d12ec6d17b2372a08fb"), looks := true }, kinds := [], alts := [], laidByText := true, laidKinds := [.sentinel, .sentinel], laidTests := true, laidLooks := .later }
def FnWindowsBackUptoCardSaid : Prop := Claim7.holds Tryz.pinned (.plain (OpenSpec.upto fnWindowsBackSpec)) fnWindowsBackUptoCard

/-- THE SECOND FORM's CARD OF 'laws.FnHeaderBack'. -/
def fnHeaderBackUptoCard : Claim7 := { stood := { row := fnHeaderBackUptoRow, standIns := [], harness := (true, "52f379ea6a6921d73cb0b973d6f406643499f7ad51bc9d12ec6d17b2372a08fb"), looks := true }, kinds := [], alts := [], laidByText := true, laidKinds := [.sentinel, .sentinel], laidTests := true, laidLooks := .later }
def FnHeaderBackUptoCardSaid : Prop := Claim7.holds Tryz.pinned (.plain (OpenSpec.upto fnHeaderBackSpec)) fnHeaderBackUptoCard

/-- THE SECOND FORM's CARD OF 'laws.FnWindows'. -/
def fnWindowsUptoCard : Claim7 := { stood := { row := fnWindowsUptoRow, standIns := [], harness := (true, "52f379ea6a6921d73cb0b973d6f406643499f7ad51bc9d12ec6d17b2372a08fb"), looks := true }, kinds := [], alts := [], laidByText := true, laidKinds := [.sentinel, .sentinel], laidTests := true, laidLooks := .later }
def FnWindowsUptoCardSaid : Prop := Claim7.holds Tryz.pinned (.plain (OpenSpec.upto fnWindowsSpec)) fnWindowsUptoCard

/-- THE SECOND FORM's CARD OF 'laws.FnHeader'. -/
def fnHeaderUptoCard : Claim7 := { stood := { row := fnHeaderUptoRow, standIns := [], harness := (true, "52f379ea6a6921d73cb0b973d6f406643499f7ad51bc9d12ec6d17b2372a08fb"), looks := true }, kinds := [], alts := [], laidByText := true, laidKinds := [.sentinel, .sentinel], laidTests := true, laidLooks := .later }
def FnHeaderUptoCardSaid : Prop := Claim7.holds Tryz.pinned (.plain (OpenSpec.upto fnHeaderSpec)) fnHeaderUptoCard

/-- THE SECOND FORM's CARD OF 'laws.FnWindowsRead'. -/
def fnWindowsReadUptoCard : Claim7 := { stood := { row := fnWindowsReadUptoRow, standIns := [], harness := (true, "52f379ea6a6921d73cb0b973d6f406643499f7ad51bc9d12ec6d17b2372a08fb"), looks := true }, kinds := [], alts := [], laidByText := true, laidKinds := [.sentinel, .sentinel], laidTests := true, laidLooks := .later }
def FnWindowsReadUptoCardSaid : Prop := Claim7.holds Tryz.pinned (.plain (OpenSpec.upto fnWindowsReadSpec)) fnWindowsReadUptoCard

/-- THE SECOND FORM's CARD OF 'laws.FnHeaderRead'. -/
def fnHeaderReadUptoCard : Claim7 := { stood := { row := fnHeaderReadUptoRow, standIns := [], harness := (true, "52f379ea6a6921d73cb0b973d6f406643499f7ad51bc9d12ec6d17b2372a08fb"), looks := true }, kinds := [], alts := [], laidByText := true, laidKinds := [.sentinel, .sentinel], laidTests := true, laidLooks := .later }
def FnHeaderReadUptoCardSaid : Prop := Claim7.holds Tryz.pinned (.plain (OpenSpec.upto fnHeaderReadSpec)) fnHeaderReadUptoCard
end Rows
end Go.Proofs.YtgdbeiadlgkedaaGreatDoor
