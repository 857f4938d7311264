/-
  DERIVED. GIVEN WITH THE SEED: THE CARDS: each row of YtdifeleddhefnaaDoorRows.lean that lists a variable, with what it lists TIED to the program's text (the seventh form; the later family's looks); each row that meets fmt, with fmt's text TOLD by the authors' own Lean function (tested against real Go, not proved from fmt's source: count such statements apart). THE CARD IS WHAT COUNTS. Prove the row's statement (the work); the ties are given (YtdifeleddhefnaaDoorTie.lean); close each card by the builder's one call (the guide's Derived/Test/ToyasCard.lean, 'card_holds'). Laid BY PROGRAM, IN A SANDBOX (cutbox-door.mjs). By AI agents, Wed Nov 11 2026. No macro, syntax, notation, axiom, sorry.
-/
import Derived.Test.YtdifeleddhefnaaDoorRows
import GoSem.ClaimSeven
namespace Go.Proofs.YtdifeleddhefnaaDoor
namespace Rows

/-- THE TIED CARD OF 'laws.FnTimeText'. -/
def fnTimeTextCard : Claim7 := { stood := { row := fnTimeTextRow, standIns := [], harness := (true, "3a9c62b81463a22c3319241159fa594d08110962d19add31f613e875d04a22cc"), looks := true }, kinds := [], alts := [], laidByText := true, laidKinds := [.data, .data, .data], laidTests := true, laidLooks := .later }
def FnTimeTextCardSaid : Prop := Claim7.holds Tryd.pinned (.plain (OpenSpec.ofChange fnTimeTextSpec)) fnTimeTextCard

/-- THE TIED CARD OF 'laws.FnWinLast'. -/
def fnWinLastCard : Claim7 := { stood := { row := fnWinLastRow, standIns := [], harness := (true, "3a9c62b81463a22c3319241159fa594d08110962d19add31f613e875d04a22cc"), looks := true }, kinds := [], alts := [], laidByText := true, laidKinds := [.data, .data, .data], laidTests := true, laidLooks := .later }
def FnWinLastCardSaid : Prop := Claim7.holds Tryd.pinned (.plain (OpenSpec.ofChange fnWinLastSpec)) fnWinLastCard

/-- THE SECOND FORM's CARD OF 'laws.FnTimeText'. -/
def fnTimeTextUptoCard : Claim7 := { stood := { row := fnTimeTextUptoRow, standIns := [], harness := (true, "3a9c62b81463a22c3319241159fa594d08110962d19add31f613e875d04a22cc"), looks := true }, kinds := [], alts := [], laidByText := true, laidKinds := [.data, .data, .data], laidTests := true, laidLooks := .later }
def FnTimeTextUptoCardSaid : Prop := Claim7.holds Tryd.pinned (.plain (OpenSpec.upto fnTimeTextSpec)) fnTimeTextUptoCard

/-- THE SECOND FORM's CARD OF 'laws.FnWinLast'. -/
def fnWinLastUptoCard : Claim7 := { stood := { row := fnWinLastUptoRow, standIns := [], harness := (true, "3a9c62b81463a22c3319241159fa594d08110962d19add31f613e875d04a22cc"), looks := true }, kinds := [], alts := [], laidByText := true, laidKinds := [.data, .data, .data], laidTests := true, laidLooks := .later }
def FnWinLastUptoCardSaid : Prop := Claim7.holds Tryd.pinned (.plain (OpenSpec.upto fnWinLastSpec)) fnWinLastUptoCard
end Rows
end Go.Proofs.YtdifeleddhefnaaDoor
