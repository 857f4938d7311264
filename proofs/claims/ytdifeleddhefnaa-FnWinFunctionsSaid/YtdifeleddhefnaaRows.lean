/-
  No cell of these rows narrows 'for every input' (looked for: loops, veiled, ifaces, maps, wideKeys, modest, calm, conditions, laid).
  DERIVED. THE GIVEN ROWS OF THIS SEAT. 15 by the template 'for every input the law returns true; each argument reads behind the call as it read before'; 0 by the template 'total and deterministic' (their statements: YtdifeleddhefnaaTotals.lean).
  GIVEN WITH THE SEED: the statements are not yours to turn. If you find one false, say at which input.
  Laid BY PROGRAM, IN A SANDBOX (cutbox-rows.mjs): the forced cells as the released guide's own fill.sh prints them over the translation fe29826be8c14407… (all of the seat's roots in one cut). By AI agents, Wed Nov 11 2026. No macro, syntax, notation, axiom, sorry.
-/
import Derived.Test.YtdifeleddhefnaaChecked
import GoSem.Claim
import GoSem.ClaimJoined
import GoSem.ClaimMapViews
import Derived.JoinedTies
import Derived.KernelRfl
namespace Go.Proofs.Ytdifeleddhefnaa
/- THE CELL 'sum', in the pinned program and in every row, IS THE sha256 OF THE DUMP (.gsa) THAT YtdifeleddhefnaaProg.lean LOADS. Nothing in Lean hashes anything: it is a label: what it is worth is what the hold of that sum in a sandbox is worth. -/
noncomputable def Try.pinned : Pinned := { name := "ytdifeleddhefnaa", sum := "fe29826be8c144077f866a9d407c5c21f9e84bba907c9cf96e0d0e61268c376e", checked := Try.checked }
namespace Rows
def none {H : Type} : Left H := { results := [], args := [] }

/-- 'laws.FnWinBefore': WHATEVER THE INPUT: true; the input reads as it did. -/
def fnWinBeforeSpec : ChangeSpec := { name := "fnWinBefore", fn := fun _ => fun
  | [d1, d2] => { results := [.lit (.bool true)], args := [d1, d2] }
  | _ => none }
def fnWinBeforeRow : OpenClaim := { program := "ytdifeleddhefnaa", sum := "fe29826be8c144077f866a9d407c5c21f9e84bba907c9cf96e0d0e61268c376e", func := "pub-tailwater/laws.FnWinBefore", spec := "fnWinBefore", unfollowed := true, recurses := true, apart := false }
def FnWinBeforeSaid : Prop := fnWinBeforeRow.holds Try.pinned (OpenSpec.ofChange fnWinBeforeSpec)

/-- ITS FALSE NEIGHBOUR: 'it returns false'. Refute it at one input. -/
def fnWinBeforeWrong : ChangeSpec := { name := "fnWinBefore", fn := fun _ => fun
  | [d1, d2] => { results := [.lit (.bool false)], args := [d1, d2] }
  | _ => none }
def FnWinBeforeWrongFalsely : Prop := fnWinBeforeRow.holds Try.pinned (OpenSpec.ofChange fnWinBeforeWrong)

/-- 'laws.FnWinCount': WHATEVER THE INPUT: true; the input reads as it did. -/
def fnWinCountSpec : ChangeSpec := { name := "fnWinCount", fn := fun _ => fun
  | [d1, d2] => { results := [.lit (.bool true)], args := [d1, d2] }
  | _ => none }
def fnWinCountRow : OpenClaim := { program := "ytdifeleddhefnaa", sum := "fe29826be8c144077f866a9d407c5c21f9e84bba907c9cf96e0d0e61268c376e", func := "pub-tailwater/laws.FnWinCount", spec := "fnWinCount", unfollowed := true, recurses := true, apart := false }
def FnWinCountSaid : Prop := fnWinCountRow.holds Try.pinned (OpenSpec.ofChange fnWinCountSpec)

/-- ITS FALSE NEIGHBOUR: 'it returns false'. Refute it at one input. -/
def fnWinCountWrong : ChangeSpec := { name := "fnWinCount", fn := fun _ => fun
  | [d1, d2] => { results := [.lit (.bool false)], args := [d1, d2] }
  | _ => none }
def FnWinCountWrongFalsely : Prop := fnWinCountRow.holds Try.pinned (OpenSpec.ofChange fnWinCountWrong)

/-- 'laws.FnWinPlaced': WHATEVER THE INPUT: true; the input reads as it did. -/
def fnWinPlacedSpec : ChangeSpec := { name := "fnWinPlaced", fn := fun _ => fun
  | [d1, d2] => { results := [.lit (.bool true)], args := [d1, d2] }
  | _ => none }
def fnWinPlacedRow : OpenClaim := { program := "ytdifeleddhefnaa", sum := "fe29826be8c144077f866a9d407c5c21f9e84bba907c9cf96e0d0e61268c376e", func := "pub-tailwater/laws.FnWinPlaced", spec := "fnWinPlaced", unfollowed := true, recurses := true, apart := false }
def FnWinPlacedSaid : Prop := fnWinPlacedRow.holds Try.pinned (OpenSpec.ofChange fnWinPlacedSpec)

/-- ITS FALSE NEIGHBOUR: 'it returns false'. Refute it at one input. -/
def fnWinPlacedWrong : ChangeSpec := { name := "fnWinPlaced", fn := fun _ => fun
  | [d1, d2] => { results := [.lit (.bool false)], args := [d1, d2] }
  | _ => none }
def FnWinPlacedWrongFalsely : Prop := fnWinPlacedRow.holds Try.pinned (OpenSpec.ofChange fnWinPlacedWrong)

/-- 'laws.FnWinShift': WHATEVER THE INPUT: true; the input reads as it did. -/
def fnWinShiftSpec : ChangeSpec := { name := "fnWinShift", fn := fun _ => fun
  | [d1, d2, d3] => { results := [.lit (.bool true)], args := [d1, d2, d3] }
  | _ => none }
def fnWinShiftRow : OpenClaim := { program := "ytdifeleddhefnaa", sum := "fe29826be8c144077f866a9d407c5c21f9e84bba907c9cf96e0d0e61268c376e", func := "pub-tailwater/laws.FnWinShift", spec := "fnWinShift", unfollowed := true, recurses := true, apart := false }
def FnWinShiftSaid : Prop := fnWinShiftRow.holds Try.pinned (OpenSpec.ofChange fnWinShiftSpec)

/-- ITS FALSE NEIGHBOUR: 'it returns false'. Refute it at one input. -/
def fnWinShiftWrong : ChangeSpec := { name := "fnWinShift", fn := fun _ => fun
  | [d1, d2, d3] => { results := [.lit (.bool false)], args := [d1, d2, d3] }
  | _ => none }
def FnWinShiftWrongFalsely : Prop := fnWinShiftRow.holds Try.pinned (OpenSpec.ofChange fnWinShiftWrong)

/-- 'laws.FnTimeAdd': WHATEVER THE INPUT: true; the input reads as it did. -/
def fnTimeAddSpec : ChangeSpec := { name := "fnTimeAdd", fn := fun _ => fun
  | [d1, d2] => { results := [.lit (.bool true)], args := [d1, d2] }
  | _ => none }
def fnTimeAddRow : OpenClaim := { program := "ytdifeleddhefnaa", sum := "fe29826be8c144077f866a9d407c5c21f9e84bba907c9cf96e0d0e61268c376e", func := "pub-tailwater/laws.FnTimeAdd", spec := "fnTimeAdd", apart := false }
def FnTimeAddSaid : Prop := fnTimeAddRow.holds Try.pinned (OpenSpec.ofChange fnTimeAddSpec)

/-- ITS FALSE NEIGHBOUR: 'it returns false'. Refute it at one input. -/
def fnTimeAddWrong : ChangeSpec := { name := "fnTimeAdd", fn := fun _ => fun
  | [d1, d2] => { results := [.lit (.bool false)], args := [d1, d2] }
  | _ => none }
def FnTimeAddWrongFalsely : Prop := fnTimeAddRow.holds Try.pinned (OpenSpec.ofChange fnTimeAddWrong)

/-- 'laws.FnTimeBack': WHATEVER THE INPUT: true; the input reads as it did. -/
def fnTimeBackSpec : ChangeSpec := { name := "fnTimeBack", fn := fun _ => fun
  | [d1, d2] => { results := [.lit (.bool true)], args := [d1, d2] }
  | _ => none }
def fnTimeBackRow : OpenClaim := { program := "ytdifeleddhefnaa", sum := "fe29826be8c144077f866a9d407c5c21f9e84bba907c9cf96e0d0e61268c376e", func := "pub-tailwater/laws.FnTimeBack", spec := "fnTimeBack", apart := false }
def FnTimeBackSaid : Prop := fnTimeBackRow.holds Try.pinned (OpenSpec.ofChange fnTimeBackSpec)

/-- ITS FALSE NEIGHBOUR: 'it returns false'. Refute it at one input. -/
def fnTimeBackWrong : ChangeSpec := { name := "fnTimeBack", fn := fun _ => fun
  | [d1, d2] => { results := [.lit (.bool false)], args := [d1, d2] }
  | _ => none }
def FnTimeBackWrongFalsely : Prop := fnTimeBackRow.holds Try.pinned (OpenSpec.ofChange fnTimeBackWrong)

/-- 'laws.FnTimeBounds': WHATEVER THE INPUT: true; the input reads as it did. -/
def fnTimeBoundsSpec : ChangeSpec := { name := "fnTimeBounds", fn := fun _ => fun
  | [d1, d2] => { results := [.lit (.bool true)], args := [d1, d2] }
  | _ => none }
def fnTimeBoundsRow : OpenClaim := { program := "ytdifeleddhefnaa", sum := "fe29826be8c144077f866a9d407c5c21f9e84bba907c9cf96e0d0e61268c376e", func := "pub-tailwater/laws.FnTimeBounds", spec := "fnTimeBounds", apart := false }
def FnTimeBoundsSaid : Prop := fnTimeBoundsRow.holds Try.pinned (OpenSpec.ofChange fnTimeBoundsSpec)

/-- ITS FALSE NEIGHBOUR: 'it returns false'. Refute it at one input. -/
def fnTimeBoundsWrong : ChangeSpec := { name := "fnTimeBounds", fn := fun _ => fun
  | [d1, d2] => { results := [.lit (.bool false)], args := [d1, d2] }
  | _ => none }
def FnTimeBoundsWrongFalsely : Prop := fnTimeBoundsRow.holds Try.pinned (OpenSpec.ofChange fnTimeBoundsWrong)

/-- 'laws.FnTimeDuration': WHATEVER THE INPUT: true; the input reads as it did. -/
def fnTimeDurationSpec : ChangeSpec := { name := "fnTimeDuration", fn := fun _ => fun
  | [d] => { results := [.lit (.bool true)], args := [d] }
  | _ => none }
def fnTimeDurationRow : OpenClaim := { program := "ytdifeleddhefnaa", sum := "fe29826be8c144077f866a9d407c5c21f9e84bba907c9cf96e0d0e61268c376e", func := "pub-tailwater/laws.FnTimeDuration", spec := "fnTimeDuration", apart := false }
def FnTimeDurationSaid : Prop := fnTimeDurationRow.holds Try.pinned (OpenSpec.ofChange fnTimeDurationSpec)

/-- ITS FALSE NEIGHBOUR: 'it returns false'. Refute it at one input. -/
def fnTimeDurationWrong : ChangeSpec := { name := "fnTimeDuration", fn := fun _ => fun
  | [d] => { results := [.lit (.bool false)], args := [d] }
  | _ => none }
def FnTimeDurationWrongFalsely : Prop := fnTimeDurationRow.holds Try.pinned (OpenSpec.ofChange fnTimeDurationWrong)

/-- 'laws.FnWinHas': WHATEVER THE INPUT: true; the input reads as it did. -/
def fnWinHasSpec : ChangeSpec := { name := "fnWinHas", fn := fun _ => fun
  | [d1, d2] => { results := [.lit (.bool true)], args := [d1, d2] }
  | _ => none }
def fnWinHasRow : OpenClaim := { program := "ytdifeleddhefnaa", sum := "fe29826be8c144077f866a9d407c5c21f9e84bba907c9cf96e0d0e61268c376e", func := "pub-tailwater/laws.FnWinHas", spec := "fnWinHas", unfollowed := true, recurses := true, apart := false }
def FnWinHasSaid : Prop := fnWinHasRow.holds Try.pinned (OpenSpec.ofChange fnWinHasSpec)

/-- ITS FALSE NEIGHBOUR: 'it returns false'. Refute it at one input. -/
def fnWinHasWrong : ChangeSpec := { name := "fnWinHas", fn := fun _ => fun
  | [d1, d2] => { results := [.lit (.bool false)], args := [d1, d2] }
  | _ => none }
def FnWinHasWrongFalsely : Prop := fnWinHasRow.holds Try.pinned (OpenSpec.ofChange fnWinHasWrong)

/-- 'laws.FnWinApart': WHATEVER THE INPUT: true; the input reads as it did. -/
def fnWinApartSpec : ChangeSpec := { name := "fnWinApart", fn := fun _ => fun
  | [d1, d2, d3] => { results := [.lit (.bool true)], args := [d1, d2, d3] }
  | _ => none }
def fnWinApartRow : OpenClaim := { program := "ytdifeleddhefnaa", sum := "fe29826be8c144077f866a9d407c5c21f9e84bba907c9cf96e0d0e61268c376e", func := "pub-tailwater/laws.FnWinApart", spec := "fnWinApart", unfollowed := true, recurses := true, apart := false }
def FnWinApartSaid : Prop := fnWinApartRow.holds Try.pinned (OpenSpec.ofChange fnWinApartSpec)

/-- ITS FALSE NEIGHBOUR: 'it returns false'. Refute it at one input. -/
def fnWinApartWrong : ChangeSpec := { name := "fnWinApart", fn := fun _ => fun
  | [d1, d2, d3] => { results := [.lit (.bool false)], args := [d1, d2, d3] }
  | _ => none }
def FnWinApartWrongFalsely : Prop := fnWinApartRow.holds Try.pinned (OpenSpec.ofChange fnWinApartWrong)

/-- 'laws.FnWinDefault': WHATEVER THE INPUT: true; the input reads as it did. -/
def fnWinDefaultSpec : ChangeSpec := { name := "fnWinDefault", fn := fun _ => fun
  | [d] => { results := [.lit (.bool true)], args := [d] }
  | _ => none }
def fnWinDefaultRow : OpenClaim := { program := "ytdifeleddhefnaa", sum := "fe29826be8c144077f866a9d407c5c21f9e84bba907c9cf96e0d0e61268c376e", func := "pub-tailwater/laws.FnWinDefault", spec := "fnWinDefault", unfollowed := true, recurses := true, apart := false }
def FnWinDefaultSaid : Prop := fnWinDefaultRow.holds Try.pinned (OpenSpec.ofChange fnWinDefaultSpec)

/-- ITS FALSE NEIGHBOUR: 'it returns false'. Refute it at one input. -/
def fnWinDefaultWrong : ChangeSpec := { name := "fnWinDefault", fn := fun _ => fun
  | [d] => { results := [.lit (.bool false)], args := [d] }
  | _ => none }
def FnWinDefaultWrongFalsely : Prop := fnWinDefaultRow.holds Try.pinned (OpenSpec.ofChange fnWinDefaultWrong)

/-- 'laws.FnWinMap': WHATEVER THE INPUT: true; the input reads as it did. -/
def fnWinMapSpec : ChangeSpec := { name := "fnWinMap", fn := fun _ => fun
  | [d1, d2] => { results := [.lit (.bool true)], args := [d1, d2] }
  | _ => none }
def fnWinMapRow : OpenClaim := { program := "ytdifeleddhefnaa", sum := "fe29826be8c144077f866a9d407c5c21f9e84bba907c9cf96e0d0e61268c376e", func := "pub-tailwater/laws.FnWinMap", spec := "fnWinMap", unfollowed := true, recurses := true, apart := false }
def FnWinMapSaid : Prop := fnWinMapRow.holds Try.pinned (OpenSpec.ofChange fnWinMapSpec)

/-- ITS FALSE NEIGHBOUR: 'it returns false'. Refute it at one input. -/
def fnWinMapWrong : ChangeSpec := { name := "fnWinMap", fn := fun _ => fun
  | [d1, d2] => { results := [.lit (.bool false)], args := [d1, d2] }
  | _ => none }
def FnWinMapWrongFalsely : Prop := fnWinMapRow.holds Try.pinned (OpenSpec.ofChange fnWinMapWrong)

/-- 'laws.FnWinEqual': WHATEVER THE INPUT: true; the input reads as it did. -/
def fnWinEqualSpec : ChangeSpec := { name := "fnWinEqual", fn := fun _ => fun
  | [d1, d2] => { results := [.lit (.bool true)], args := [d1, d2] }
  | _ => none }
def fnWinEqualRow : OpenClaim := { program := "ytdifeleddhefnaa", sum := "fe29826be8c144077f866a9d407c5c21f9e84bba907c9cf96e0d0e61268c376e", func := "pub-tailwater/laws.FnWinEqual", spec := "fnWinEqual", unfollowed := true, recurses := true, apart := false }
def FnWinEqualSaid : Prop := fnWinEqualRow.holds Try.pinned (OpenSpec.ofChange fnWinEqualSpec)

/-- ITS FALSE NEIGHBOUR: 'it returns false'. Refute it at one input. -/
def fnWinEqualWrong : ChangeSpec := { name := "fnWinEqual", fn := fun _ => fun
  | [d1, d2] => { results := [.lit (.bool false)], args := [d1, d2] }
  | _ => none }
def FnWinEqualWrongFalsely : Prop := fnWinEqualRow.holds Try.pinned (OpenSpec.ofChange fnWinEqualWrong)

/-- 'laws.FnWinFunctions': WHATEVER THE INPUT: true; the input reads as it did. -/
def fnWinFunctionsSpec : ChangeSpec := { name := "fnWinFunctions", fn := fun _ => fun
  | [d1, d2] => { results := [.lit (.bool true)], args := [d1, d2] }
  | _ => none }
def fnWinFunctionsRow : OpenClaim := { program := "ytdifeleddhefnaa", sum := "fe29826be8c144077f866a9d407c5c21f9e84bba907c9cf96e0d0e61268c376e", func := "pub-tailwater/laws.FnWinFunctions", spec := "fnWinFunctions", unfollowed := true, recurses := true, apart := false }
def FnWinFunctionsSaid : Prop := fnWinFunctionsRow.holds Try.pinned (OpenSpec.ofChange fnWinFunctionsSpec)

/-- ITS FALSE NEIGHBOUR: 'it returns false'. Refute it at one input. -/
def fnWinFunctionsWrong : ChangeSpec := { name := "fnWinFunctions", fn := fun _ => fun
  | [d1, d2] => { results := [.lit (.bool false)], args := [d1, d2] }
  | _ => none }
def FnWinFunctionsWrongFalsely : Prop := fnWinFunctionsRow.holds Try.pinned (OpenSpec.ofChange fnWinFunctionsWrong)

/-- 'laws.FnWinMapSame': WHATEVER THE INPUT: true; the input reads as it did. -/
def fnWinMapSameSpec : ChangeSpec := { name := "fnWinMapSame", fn := fun _ => fun
  | [d1, d2] => { results := [.lit (.bool true)], args := [d1, d2] }
  | _ => none }
def fnWinMapSameRow : OpenClaim := { program := "ytdifeleddhefnaa", sum := "fe29826be8c144077f866a9d407c5c21f9e84bba907c9cf96e0d0e61268c376e", func := "pub-tailwater/laws.FnWinMapSame", spec := "fnWinMapSame", unfollowed := true, recurses := true, apart := false }
def FnWinMapSameSaid : Prop := fnWinMapSameRow.holds Try.pinned (OpenSpec.ofChange fnWinMapSameSpec)

/-- ITS FALSE NEIGHBOUR: 'it returns false'. Refute it at one input. -/
def fnWinMapSameWrong : ChangeSpec := { name := "fnWinMapSame", fn := fun _ => fun
  | [d1, d2] => { results := [.lit (.bool false)], args := [d1, d2] }
  | _ => none }
def FnWinMapSameWrongFalsely : Prop := fnWinMapSameRow.holds Try.pinned (OpenSpec.ofChange fnWinMapSameWrong)

/- THE SECOND FORM. 'bulk': how many values and letters a reading holds, each counted each time it is reached (what is shared counts as often as it is met; a slice's spare places count too). A statement '..UptoSaid' is the law's where the arguments, and the package variables that the reading takes, are together of bulk at most 1048576: NARROWER than '..Said'. Prove '..Said' where nothing that the law and all that it calls make is longer than what came in: it says more and counts as full. Else prove '..UptoSaid'. A law counts once. -/
mutual
def uptoBulk {H : Type} : DataW H → Nat
  | .lit (.string bytes) => bytes.length + 1
  | .lit _ => 1
  | .nil => 1
  | .ptr d => uptoBulk d + 1
  | .slice elems spare => uptoBulkAll elems + uptoBulkAll spare + 1
  | .agg parts => uptoBulkAll parts + 1
  | .iface _ d => uptoBulk d + 1
  | .map entries => uptoBulkEntries entries + 1
  | .held _ => 1
def uptoBulkAll {H : Type} : List (DataW H) → Nat
  | [] => 0
  | d :: r => uptoBulk d + uptoBulkAll r
def uptoBulkEntries {H : Type} : List (Lit × DataW H) → Nat
  | [] => 0
  | x :: r => uptoBulkEntry x + uptoBulkEntries r
def uptoBulkEntry {H : Type} : Lit × DataW H → Nat
  | (.string bytes, d) => bytes.length + uptoBulk d + 1
  | (_, d) => uptoBulk d + 1
 end
def uptoSmall : (H : Type) → List (DataW H) → Bool := fun _ ds => decide (uptoBulkAll ds ≤ 1048576)
def OpenSpec.upto (s : _root_.Go.ChangeSpec) : _root_.Go.OpenSpec := { _root_.Go.OpenSpec.ofChange s with cond := some uptoSmall }

/-- 'laws.FnWinBefore', WHERE WHAT IT READS IS OF BULK AT MOST 1048576: true; the input reads as it did. -/
def fnWinBeforeUptoRow : OpenClaim := { program := "ytdifeleddhefnaa", sum := "fe29826be8c144077f866a9d407c5c21f9e84bba907c9cf96e0d0e61268c376e", func := "pub-tailwater/laws.FnWinBefore", spec := "fnWinBefore", unfollowed := true, recurses := true, apart := false, narrowed := true }
def FnWinBeforeUptoSaid : Prop := fnWinBeforeUptoRow.holds Try.pinned (OpenSpec.upto fnWinBeforeSpec)

/-- 'laws.FnWinCount', WHERE WHAT IT READS IS OF BULK AT MOST 1048576: true; the input reads as it did. -/
def fnWinCountUptoRow : OpenClaim := { program := "ytdifeleddhefnaa", sum := "fe29826be8c144077f866a9d407c5c21f9e84bba907c9cf96e0d0e61268c376e", func := "pub-tailwater/laws.FnWinCount", spec := "fnWinCount", unfollowed := true, recurses := true, apart := false, narrowed := true }
def FnWinCountUptoSaid : Prop := fnWinCountUptoRow.holds Try.pinned (OpenSpec.upto fnWinCountSpec)

/-- 'laws.FnWinPlaced', WHERE WHAT IT READS IS OF BULK AT MOST 1048576: true; the input reads as it did. -/
def fnWinPlacedUptoRow : OpenClaim := { program := "ytdifeleddhefnaa", sum := "fe29826be8c144077f866a9d407c5c21f9e84bba907c9cf96e0d0e61268c376e", func := "pub-tailwater/laws.FnWinPlaced", spec := "fnWinPlaced", unfollowed := true, recurses := true, apart := false, narrowed := true }
def FnWinPlacedUptoSaid : Prop := fnWinPlacedUptoRow.holds Try.pinned (OpenSpec.upto fnWinPlacedSpec)

/-- 'laws.FnWinShift', WHERE WHAT IT READS IS OF BULK AT MOST 1048576: true; the input reads as it did. -/
def fnWinShiftUptoRow : OpenClaim := { program := "ytdifeleddhefnaa", sum := "fe29826be8c144077f866a9d407c5c21f9e84bba907c9cf96e0d0e61268c376e", func := "pub-tailwater/laws.FnWinShift", spec := "fnWinShift", unfollowed := true, recurses := true, apart := false, narrowed := true }
def FnWinShiftUptoSaid : Prop := fnWinShiftUptoRow.holds Try.pinned (OpenSpec.upto fnWinShiftSpec)

/-- 'laws.FnTimeAdd', WHERE WHAT IT READS IS OF BULK AT MOST 1048576: true; the input reads as it did. -/
def fnTimeAddUptoRow : OpenClaim := { program := "ytdifeleddhefnaa", sum := "fe29826be8c144077f866a9d407c5c21f9e84bba907c9cf96e0d0e61268c376e", func := "pub-tailwater/laws.FnTimeAdd", spec := "fnTimeAdd", apart := false, narrowed := true }
def FnTimeAddUptoSaid : Prop := fnTimeAddUptoRow.holds Try.pinned (OpenSpec.upto fnTimeAddSpec)

/-- 'laws.FnTimeBack', WHERE WHAT IT READS IS OF BULK AT MOST 1048576: true; the input reads as it did. -/
def fnTimeBackUptoRow : OpenClaim := { program := "ytdifeleddhefnaa", sum := "fe29826be8c144077f866a9d407c5c21f9e84bba907c9cf96e0d0e61268c376e", func := "pub-tailwater/laws.FnTimeBack", spec := "fnTimeBack", apart := false, narrowed := true }
def FnTimeBackUptoSaid : Prop := fnTimeBackUptoRow.holds Try.pinned (OpenSpec.upto fnTimeBackSpec)

/-- 'laws.FnTimeBounds', WHERE WHAT IT READS IS OF BULK AT MOST 1048576: true; the input reads as it did. -/
def fnTimeBoundsUptoRow : OpenClaim := { program := "ytdifeleddhefnaa", sum := "fe29826be8c144077f866a9d407c5c21f9e84bba907c9cf96e0d0e61268c376e", func := "pub-tailwater/laws.FnTimeBounds", spec := "fnTimeBounds", apart := false, narrowed := true }
def FnTimeBoundsUptoSaid : Prop := fnTimeBoundsUptoRow.holds Try.pinned (OpenSpec.upto fnTimeBoundsSpec)

/-- 'laws.FnTimeDuration', WHERE WHAT IT READS IS OF BULK AT MOST 1048576: true; the input reads as it did. -/
def fnTimeDurationUptoRow : OpenClaim := { program := "ytdifeleddhefnaa", sum := "fe29826be8c144077f866a9d407c5c21f9e84bba907c9cf96e0d0e61268c376e", func := "pub-tailwater/laws.FnTimeDuration", spec := "fnTimeDuration", apart := false, narrowed := true }
def FnTimeDurationUptoSaid : Prop := fnTimeDurationUptoRow.holds Try.pinned (OpenSpec.upto fnTimeDurationSpec)

/-- 'laws.FnWinHas', WHERE WHAT IT READS IS OF BULK AT MOST 1048576: true; the input reads as it did. -/
def fnWinHasUptoRow : OpenClaim := { program := "ytdifeleddhefnaa", sum := "fe29826be8c144077f866a9d407c5c21f9e84bba907c9cf96e0d0e61268c376e", func := "pub-tailwater/laws.FnWinHas", spec := "fnWinHas", unfollowed := true, recurses := true, apart := false, narrowed := true }
def FnWinHasUptoSaid : Prop := fnWinHasUptoRow.holds Try.pinned (OpenSpec.upto fnWinHasSpec)

/-- 'laws.FnWinApart', WHERE WHAT IT READS IS OF BULK AT MOST 1048576: true; the input reads as it did. -/
def fnWinApartUptoRow : OpenClaim := { program := "ytdifeleddhefnaa", sum := "fe29826be8c144077f866a9d407c5c21f9e84bba907c9cf96e0d0e61268c376e", func := "pub-tailwater/laws.FnWinApart", spec := "fnWinApart", unfollowed := true, recurses := true, apart := false, narrowed := true }
def FnWinApartUptoSaid : Prop := fnWinApartUptoRow.holds Try.pinned (OpenSpec.upto fnWinApartSpec)

/-- 'laws.FnWinDefault', WHERE WHAT IT READS IS OF BULK AT MOST 1048576: true; the input reads as it did. -/
def fnWinDefaultUptoRow : OpenClaim := { program := "ytdifeleddhefnaa", sum := "fe29826be8c144077f866a9d407c5c21f9e84bba907c9cf96e0d0e61268c376e", func := "pub-tailwater/laws.FnWinDefault", spec := "fnWinDefault", unfollowed := true, recurses := true, apart := false, narrowed := true }
def FnWinDefaultUptoSaid : Prop := fnWinDefaultUptoRow.holds Try.pinned (OpenSpec.upto fnWinDefaultSpec)

/-- 'laws.FnWinMap', WHERE WHAT IT READS IS OF BULK AT MOST 1048576: true; the input reads as it did. -/
def fnWinMapUptoRow : OpenClaim := { program := "ytdifeleddhefnaa", sum := "fe29826be8c144077f866a9d407c5c21f9e84bba907c9cf96e0d0e61268c376e", func := "pub-tailwater/laws.FnWinMap", spec := "fnWinMap", unfollowed := true, recurses := true, apart := false, narrowed := true }
def FnWinMapUptoSaid : Prop := fnWinMapUptoRow.holds Try.pinned (OpenSpec.upto fnWinMapSpec)

/-- 'laws.FnWinEqual', WHERE WHAT IT READS IS OF BULK AT MOST 1048576: true; the input reads as it did. -/
def fnWinEqualUptoRow : OpenClaim := { program := "ytdifeleddhefnaa", sum := "fe29826be8c144077f866a9d407c5c21f9e84bba907c9cf96e0d0e61268c376e", func := "pub-tailwater/laws.FnWinEqual", spec := "fnWinEqual", unfollowed := true, recurses := true, apart := false, narrowed := true }
def FnWinEqualUptoSaid : Prop := fnWinEqualUptoRow.holds Try.pinned (OpenSpec.upto fnWinEqualSpec)

/-- 'laws.FnWinFunctions', WHERE WHAT IT READS IS OF BULK AT MOST 1048576: true; the input reads as it did. -/
def fnWinFunctionsUptoRow : OpenClaim := { program := "ytdifeleddhefnaa", sum := "fe29826be8c144077f866a9d407c5c21f9e84bba907c9cf96e0d0e61268c376e", func := "pub-tailwater/laws.FnWinFunctions", spec := "fnWinFunctions", unfollowed := true, recurses := true, apart := false, narrowed := true }
def FnWinFunctionsUptoSaid : Prop := fnWinFunctionsUptoRow.holds Try.pinned (OpenSpec.upto fnWinFunctionsSpec)

/-- 'laws.FnWinMapSame', WHERE WHAT IT READS IS OF BULK AT MOST 1048576: true; the input reads as it did. -/
def fnWinMapSameUptoRow : OpenClaim := { program := "ytdifeleddhefnaa", sum := "fe29826be8c144077f866a9d407c5c21f9e84bba907c9cf96e0d0e61268c376e", func := "pub-tailwater/laws.FnWinMapSame", spec := "fnWinMapSame", unfollowed := true, recurses := true, apart := false, narrowed := true }
def FnWinMapSameUptoSaid : Prop := fnWinMapSameUptoRow.holds Try.pinned (OpenSpec.upto fnWinMapSameSpec)

end Rows
end Go.Proofs.Ytdifeleddhefnaa
