/-
  NARROWER THAN 'FOR EVERY INPUT', by the rows' own cells (each row's printed sentence says how): FnWindowOne: laid · FnWindowsBack: laid · FnHeaderBack: laid · FnWindows: laid · FnHeader: laid · FnWindowsRead: laid · FnHeaderRead: laid.
  DERIVED. THE GIVEN ROWS OF THIS SEAT. 7 by the template 'for every input the law returns true; each argument reads behind the call as it read before'; 0 by the template 'total and deterministic' (their statements: YtgdbeiadlgkedaaGreatDoorTotals.lean).
  GIVEN WITH THE SEED: the statements are not yours to turn. If you find one false, say at which input.
  Laid BY PROGRAM, IN A SANDBOX (cutbox-rows.mjs): the forced cells as the released guide's own fill.sh prints them over the translation 81212c1174496a90… (all of the seat's roots in one cut). By AI agents, Wed Nov 11 2026. No macro, syntax, notation, axiom, sorry.
-/
import Derived.Test.YtgdbeiadlgkedaaGreatDoorChecked
import GoSem.Claim
import GoSem.ClaimJoined
import GoSem.ClaimMapViews
import Derived.JoinedTies
import Derived.KernelRfl
namespace Go.Proofs.YtgdbeiadlgkedaaGreatDoor
/- THE CELL 'sum', in the pinned program and in every row, IS THE sha256 OF THE DUMP (.gsa) THAT YtgdbeiadlgkedaaGreatDoorProg.lean LOADS. Nothing in Lean hashes anything: it is a label: what it is worth is what the hold of that sum in a sandbox is worth. -/
noncomputable def Tryz.pinned : Pinned := { name := "ytgdbeiadlgkedaagreatdoor", sum := "81212c1174496a909477275e5f5705ca30b5291ddf2dc7b39f0a02f5c5228a04", checked := Tryz.checked }
namespace Rows
def none {H : Type} : Left H := { results := [], args := [] }

/- WHAT THE LISTED PACKAGE-LEVEL VARIABLES READ AS WHEN THE CALL BEGINS. Each datum BY PROGRAM (the guide's laid-datum.mjs) off the statement by which the dump's own 'gosem.cut.vars' lays the variable. In a bare row this is a premise. The card (YtgdbeiadlgkedaaGreatDoorCards.lean) ties it to the program's text. -/
def laid_io_EOF {H : Type} : DataW H := .iface "*errors.errorString" (.ptr (.agg [.lit (.string [69, 79, 70])]))
def laid_pub_tailwater_pub_beam_coder_ErrVarIntTooLong {H : Type} : DataW H := .iface "*errors.errorString" (.ptr (.agg [.lit (.string [118, 97, 114, 105, 110, 116, 32, 116, 111, 111, 32, 108, 111, 110, 103])]))

/-- 'laws.FnWindowOne': WHATEVER THE INPUT: true; the input reads as it did. -/
def fnWindowOneSpec : ChangeSpec := { name := "fnWindowOne", fn := fun _ => fun
  | [d1, d2] => { results := [.lit (.bool true)], args := [d1, d2] }
  | _ => none }
def fnWindowOneRow : OpenClaim := { program := "ytgdbeiadlgkedaagreatdoor", sum := "81212c1174496a909477275e5f5705ca30b5291ddf2dc7b39f0a02f5c5228a04", func := "pub-tailwater/laws.FnWindowOne", spec := "fnWindowOne", inPlace := ["math.Float64frombits", "math.Float64bits", "math.Float32frombits", "math.Float32bits", "internal/abi.NoEscape"], unfollowed := true, recurses := true, named := ["encoding/binary.BigEndian", "io.EOF", "pub-tailwater/pub/beam/coder.ErrVarIntTooLong"], apart := false, laid := [("io.EOF", laid_io_EOF), ("pub-tailwater/pub/beam/coder.ErrVarIntTooLong", laid_pub_tailwater_pub_beam_coder_ErrVarIntTooLong)] }
def FnWindowOneSaid : Prop := fnWindowOneRow.holds Tryz.pinned (OpenSpec.ofChange fnWindowOneSpec)

/-- ITS FALSE NEIGHBOUR: 'it returns false'. Refute it at one input. -/
def fnWindowOneWrong : ChangeSpec := { name := "fnWindowOne", fn := fun _ => fun
  | [d1, d2] => { results := [.lit (.bool false)], args := [d1, d2] }
  | _ => none }
def FnWindowOneWrongFalsely : Prop := fnWindowOneRow.holds Tryz.pinned (OpenSpec.ofChange fnWindowOneWrong)

/-- 'laws.FnWindowsBack': WHATEVER THE INPUT: true; the input reads as it did. -/
def fnWindowsBackSpec : ChangeSpec := { name := "fnWindowsBack", fn := fun _ => fun
  | [d1, d2] => { results := [.lit (.bool true)], args := [d1, d2] }
  | _ => none }
def fnWindowsBackRow : OpenClaim := { program := "ytgdbeiadlgkedaagreatdoor", sum := "81212c1174496a909477275e5f5705ca30b5291ddf2dc7b39f0a02f5c5228a04", func := "pub-tailwater/laws.FnWindowsBack", spec := "fnWindowsBack", inPlace := ["math.Float64frombits", "math.Float64bits", "math.Float32frombits", "math.Float32bits", "internal/abi.NoEscape"], unfollowed := true, recurses := true, named := ["encoding/binary.BigEndian", "io.EOF", "pub-tailwater/pub/beam/coder.ErrVarIntTooLong"], apart := false, laid := [("io.EOF", laid_io_EOF), ("pub-tailwater/pub/beam/coder.ErrVarIntTooLong", laid_pub_tailwater_pub_beam_coder_ErrVarIntTooLong)] }
def FnWindowsBackSaid : Prop := fnWindowsBackRow.holds Tryz.pinned (OpenSpec.ofChange fnWindowsBackSpec)

/-- ITS FALSE NEIGHBOUR: 'it returns false'. Refute it at one input. -/
def fnWindowsBackWrong : ChangeSpec := { name := "fnWindowsBack", fn := fun _ => fun
  | [d1, d2] => { results := [.lit (.bool false)], args := [d1, d2] }
  | _ => none }
def FnWindowsBackWrongFalsely : Prop := fnWindowsBackRow.holds Tryz.pinned (OpenSpec.ofChange fnWindowsBackWrong)

/-- 'laws.FnHeaderBack': WHATEVER THE INPUT: true; the input reads as it did. -/
def fnHeaderBackSpec : ChangeSpec := { name := "fnHeaderBack", fn := fun _ => fun
  | [d1, d2] => { results := [.lit (.bool true)], args := [d1, d2] }
  | _ => none }
def fnHeaderBackRow : OpenClaim := { program := "ytgdbeiadlgkedaagreatdoor", sum := "81212c1174496a909477275e5f5705ca30b5291ddf2dc7b39f0a02f5c5228a04", func := "pub-tailwater/laws.FnHeaderBack", spec := "fnHeaderBack", inPlace := ["math.Float64frombits", "math.Float64bits", "math.Float32frombits", "math.Float32bits", "internal/abi.NoEscape"], unfollowed := true, recurses := true, named := ["encoding/binary.BigEndian", "io.EOF", "pub-tailwater/pub/beam/coder.ErrVarIntTooLong"], apart := false, laid := [("io.EOF", laid_io_EOF), ("pub-tailwater/pub/beam/coder.ErrVarIntTooLong", laid_pub_tailwater_pub_beam_coder_ErrVarIntTooLong)] }
def FnHeaderBackSaid : Prop := fnHeaderBackRow.holds Tryz.pinned (OpenSpec.ofChange fnHeaderBackSpec)

/-- ITS FALSE NEIGHBOUR: 'it returns false'. Refute it at one input. -/
def fnHeaderBackWrong : ChangeSpec := { name := "fnHeaderBack", fn := fun _ => fun
  | [d1, d2] => { results := [.lit (.bool false)], args := [d1, d2] }
  | _ => none }
def FnHeaderBackWrongFalsely : Prop := fnHeaderBackRow.holds Tryz.pinned (OpenSpec.ofChange fnHeaderBackWrong)

/-- 'laws.FnWindows': WHATEVER THE INPUT: true; the input reads as it did. -/
def fnWindowsSpec : ChangeSpec := { name := "fnWindows", fn := fun _ => fun
  | [d] => { results := [.lit (.bool true)], args := [d] }
  | _ => none }
def fnWindowsRow : OpenClaim := { program := "ytgdbeiadlgkedaagreatdoor", sum := "81212c1174496a909477275e5f5705ca30b5291ddf2dc7b39f0a02f5c5228a04", func := "pub-tailwater/laws.FnWindows", spec := "fnWindows", inPlace := ["math.Float64frombits", "math.Float64bits", "math.Float32frombits", "math.Float32bits", "internal/abi.NoEscape"], unfollowed := true, recurses := true, named := ["encoding/binary.BigEndian", "io.EOF", "pub-tailwater/pub/beam/coder.ErrVarIntTooLong"], apart := false, laid := [("io.EOF", laid_io_EOF), ("pub-tailwater/pub/beam/coder.ErrVarIntTooLong", laid_pub_tailwater_pub_beam_coder_ErrVarIntTooLong)] }
def FnWindowsSaid : Prop := fnWindowsRow.holds Tryz.pinned (OpenSpec.ofChange fnWindowsSpec)

/-- ITS FALSE NEIGHBOUR: 'it returns false'. Refute it at one input. -/
def fnWindowsWrong : ChangeSpec := { name := "fnWindows", fn := fun _ => fun
  | [d] => { results := [.lit (.bool false)], args := [d] }
  | _ => none }
def FnWindowsWrongFalsely : Prop := fnWindowsRow.holds Tryz.pinned (OpenSpec.ofChange fnWindowsWrong)

/-- 'laws.FnHeader': WHATEVER THE INPUT: true; the input reads as it did. -/
def fnHeaderSpec : ChangeSpec := { name := "fnHeader", fn := fun _ => fun
  | [d] => { results := [.lit (.bool true)], args := [d] }
  | _ => none }
def fnHeaderRow : OpenClaim := { program := "ytgdbeiadlgkedaagreatdoor", sum := "81212c1174496a909477275e5f5705ca30b5291ddf2dc7b39f0a02f5c5228a04", func := "pub-tailwater/laws.FnHeader", spec := "fnHeader", inPlace := ["math.Float64frombits", "math.Float64bits", "math.Float32frombits", "math.Float32bits", "internal/abi.NoEscape"], unfollowed := true, recurses := true, named := ["encoding/binary.BigEndian", "io.EOF", "pub-tailwater/pub/beam/coder.ErrVarIntTooLong"], apart := false, laid := [("io.EOF", laid_io_EOF), ("pub-tailwater/pub/beam/coder.ErrVarIntTooLong", laid_pub_tailwater_pub_beam_coder_ErrVarIntTooLong)] }
def FnHeaderSaid : Prop := fnHeaderRow.holds Tryz.pinned (OpenSpec.ofChange fnHeaderSpec)

/-- ITS FALSE NEIGHBOUR: 'it returns false'. Refute it at one input. -/
def fnHeaderWrong : ChangeSpec := { name := "fnHeader", fn := fun _ => fun
  | [d] => { results := [.lit (.bool false)], args := [d] }
  | _ => none }
def FnHeaderWrongFalsely : Prop := fnHeaderRow.holds Tryz.pinned (OpenSpec.ofChange fnHeaderWrong)

/-- 'laws.FnWindowsRead': WHATEVER THE INPUT: true; the input reads as it did. -/
def fnWindowsReadSpec : ChangeSpec := { name := "fnWindowsRead", fn := fun _ => fun
  | [d1, d2] => { results := [.lit (.bool true)], args := [d1, d2] }
  | _ => none }
def fnWindowsReadRow : OpenClaim := { program := "ytgdbeiadlgkedaagreatdoor", sum := "81212c1174496a909477275e5f5705ca30b5291ddf2dc7b39f0a02f5c5228a04", func := "pub-tailwater/laws.FnWindowsRead", spec := "fnWindowsRead", inPlace := ["math.Float64frombits", "math.Float64bits", "math.Float32frombits", "math.Float32bits", "internal/abi.NoEscape"], unfollowed := true, recurses := true, named := ["encoding/binary.BigEndian", "io.EOF", "pub-tailwater/pub/beam/coder.ErrVarIntTooLong"], apart := false, laid := [("io.EOF", laid_io_EOF), ("pub-tailwater/pub/beam/coder.ErrVarIntTooLong", laid_pub_tailwater_pub_beam_coder_ErrVarIntTooLong)] }
def FnWindowsReadSaid : Prop := fnWindowsReadRow.holds Tryz.pinned (OpenSpec.ofChange fnWindowsReadSpec)

/-- ITS FALSE NEIGHBOUR: 'it returns false'. Refute it at one input. -/
def fnWindowsReadWrong : ChangeSpec := { name := "fnWindowsRead", fn := fun _ => fun
  | [d1, d2] => { results := [.lit (.bool false)], args := [d1, d2] }
  | _ => none }
def FnWindowsReadWrongFalsely : Prop := fnWindowsReadRow.holds Tryz.pinned (OpenSpec.ofChange fnWindowsReadWrong)

/-- 'laws.FnHeaderRead': WHATEVER THE INPUT: true; the input reads as it did. -/
def fnHeaderReadSpec : ChangeSpec := { name := "fnHeaderRead", fn := fun _ => fun
  | [d1, d2] => { results := [.lit (.bool true)], args := [d1, d2] }
  | _ => none }
def fnHeaderReadRow : OpenClaim := { program := "ytgdbeiadlgkedaagreatdoor", sum := "81212c1174496a909477275e5f5705ca30b5291ddf2dc7b39f0a02f5c5228a04", func := "pub-tailwater/laws.FnHeaderRead", spec := "fnHeaderRead", inPlace := ["math.Float64frombits", "math.Float64bits", "math.Float32frombits", "math.Float32bits", "internal/abi.NoEscape"], unfollowed := true, recurses := true, named := ["encoding/binary.BigEndian", "io.EOF", "pub-tailwater/pub/beam/coder.ErrVarIntTooLong"], apart := false, laid := [("io.EOF", laid_io_EOF), ("pub-tailwater/pub/beam/coder.ErrVarIntTooLong", laid_pub_tailwater_pub_beam_coder_ErrVarIntTooLong)] }
def FnHeaderReadSaid : Prop := fnHeaderReadRow.holds Tryz.pinned (OpenSpec.ofChange fnHeaderReadSpec)

/-- ITS FALSE NEIGHBOUR: 'it returns false'. Refute it at one input. -/
def fnHeaderReadWrong : ChangeSpec := { name := "fnHeaderRead", fn := fun _ => fun
  | [d1, d2] => { results := [.lit (.bool false)], args := [d1, d2] }
  | _ => none }
def FnHeaderReadWrongFalsely : Prop := fnHeaderReadRow.holds Tryz.pinned (OpenSpec.ofChange fnHeaderReadWrong)

/- THE SECOND FORM. 'bulk': how many values and letters a reading holds, each counted each time it is reached (what is shared counts as often as it is met; a slice's spare places count too). A statement '..UptoSaid' is the law's where the arguments, and the package variables that the reading takes, are together of bulk at most 1048576: NARROWER than '..Said'. Prove '..Said' where nothing that the law and all that it calls make is longer than what came in: it says more and counts as full. Else prove '..UptoSaid'. A law counts once. -/
mutual
def uptoBulk {H : Type} : DataW H → Nat
  | .lit (.string bytes) => bytes.length + 1
  | .lit _ => 1
  | .nil => 1
  | .ptr d => uptoBulk d + 1
  | .slice elems spare => uptoBulkAll elems + uptoBulkAll spare + 1
  | .agg parts => uptoBulkAll parts + 1
  | .iface _ d => uptoBulk d + 1
  | .map entries => uptoBulkEntries entries + 1
  | .held _ => 1
def uptoBulkAll {H : Type} : List (DataW H) → Nat
  | [] => 0
  | d :: r => uptoBulk d + uptoBulkAll r
def uptoBulkEntries {H : Type} : List (Lit × DataW H) → Nat
  | [] => 0
  | x :: r => uptoBulkEntry x + uptoBulkEntries r
def uptoBulkEntry {H : Type} : Lit × DataW H → Nat
  | (.string bytes, d) => bytes.length + uptoBulk d + 1
  | (_, d) => uptoBulk d + 1
 end
def uptoSmall : (H : Type) → List (DataW H) → Bool := fun _ ds => decide (uptoBulkAll ds ≤ 1048576)
def OpenSpec.upto (s : _root_.Go.ChangeSpec) : _root_.Go.OpenSpec := { _root_.Go.OpenSpec.ofChange s with cond := some uptoSmall }

/-- 'laws.FnWindowOne', WHERE WHAT IT READS IS OF BULK AT MOST 1048576: true; the input reads as it did. -/
def fnWindowOneUptoRow : OpenClaim := { program := "ytgdbeiadlgkedaagreatdoor", sum := "81212c1174496a909477275e5f5705ca30b5291ddf2dc7b39f0a02f5c5228a04", func := "pub-tailwater/laws.FnWindowOne", spec := "fnWindowOne", inPlace := ["math.Float64frombits", "math.Float64bits", "math.Float32frombits", "math.Float32bits", "internal/abi.NoEscape"], unfollowed := true, recurses := true, named := ["encoding/binary.BigEndian", "io.EOF", "pub-tailwater/pub/beam/coder.ErrVarIntTooLong"], apart := false, laid := [("io.EOF", laid_io_EOF), ("pub-tailwater/pub/beam/coder.ErrVarIntTooLong", laid_pub_tailwater_pub_beam_coder_ErrVarIntTooLong)], narrowed := true }
def FnWindowOneUptoSaid : Prop := fnWindowOneUptoRow.holds Tryz.pinned (OpenSpec.upto fnWindowOneSpec)

/-- 'laws.FnWindowsBack', WHERE WHAT IT READS IS OF BULK AT MOST 1048576: true; the input reads as it did. -/
def fnWindowsBackUptoRow : OpenClaim := { program := "ytgdbeiadlgkedaagreatdoor", sum := "81212c1174496a909477275e5f5705ca30b5291ddf2dc7b39f0a02f5c5228a04", func := "pub-tailwater/laws.FnWindowsBack", spec := "fnWindowsBack", inPlace := ["math.Float64frombits", "math.Float64bits", "math.Float32frombits", "math.Float32bits", "internal/abi.NoEscape"], unfollowed := true, recurses := true, named := ["encoding/binary.BigEndian", "io.EOF", "pub-tailwater/pub/beam/coder.ErrVarIntTooLong"], apart := false, laid := [("io.EOF", laid_io_EOF), ("pub-tailwater/pub/beam/coder.ErrVarIntTooLong", laid_pub_tailwater_pub_beam_coder_ErrVarIntTooLong)], narrowed := true }
def FnWindowsBackUptoSaid : Prop := fnWindowsBackUptoRow.holds Tryz.pinned (OpenSpec.upto fnWindowsBackSpec)

/-- 'laws.FnHeaderBack', WHERE WHAT IT READS IS OF BULK AT MOST 1048576: true; the input reads as it did. -/
def fnHeaderBackUptoRow : OpenClaim := { program := "ytgdbeiadlgkedaagreatdoor", sum := "81212c1174496a909477275e5f5705ca30b5291ddf2dc7b39f0a02f5c5228a04", func := "pub-tailwater/laws.FnHeaderBack", spec := "fnHeaderBack", inPlace := ["math.Float64frombits", "math.Float64bits", "math.Float32frombits", "math.Float32bits", "internal/abi.NoEscape"], unfollowed := true, recurses := true, named := ["encoding/binary.BigEndian", "io.EOF", "pub-tailwater/pub/beam/coder.ErrVarIntTooLong"], apart := false, laid := [("io.EOF", laid_io_EOF), ("pub-tailwater/pub/beam/coder.ErrVarIntTooLong", laid_pub_tailwater_pub_beam_coder_ErrVarIntTooLong)], narrowed := true }
def FnHeaderBackUptoSaid : Prop := fnHeaderBackUptoRow.holds Tryz.pinned (OpenSpec.upto fnHeaderBackSpec)

/-- 'laws.FnWindows', WHERE WHAT IT READS IS OF BULK AT MOST 1048576: true; the input reads as it did. -/
def fnWindowsUptoRow : OpenClaim := { program := "ytgdbeiadlgkedaagreatdoor", sum := "81212c1174496a909477275e5f5705ca30b5291ddf2dc7b39f0a02f5c5228a04", func := "pub-tailwater/laws.FnWindows", spec := "fnWindows", inPlace := ["math.Float64frombits", "math.Float64bits", "math.Float32frombits", "math.Float32bits", "internal/abi.NoEscape"], unfollowed := true, recurses := true, named := ["encoding/binary.BigEndian", "io.EOF", "pub-tailwater/pub/beam/coder.ErrVarIntTooLong"], apart := false, laid := [("io.EOF", laid_io_EOF), ("pub-tailwater/pub/beam/coder.ErrVarIntTooLong", laid_pub_tailwater_pub_beam_coder_ErrVarIntTooLong)], narrowed := true }
def FnWindowsUptoSaid : Prop := fnWindowsUptoRow.holds Tryz.pinned (OpenSpec.upto fnWindowsSpec)

/-- 'laws.FnHeader', WHERE WHAT IT READS IS OF BULK AT MOST 1048576: true; the input reads as it did. -/
def fnHeaderUptoRow : OpenClaim := { program := "ytgdbeiadlgkedaagreatdoor", sum := "81212c1174496a909477275e5f5705ca30b5291ddf2dc7b39f0a02f5c5228a04", func := "pub-tailwater/laws.FnHeader", spec := "fnHeader", inPlace := ["math.Float64frombits", "math.Float64bits", "math.Float32frombits", "math.Float32bits", "internal/abi.NoEscape"], unfollowed := true, recurses := true, named := ["encoding/binary.BigEndian", "io.EOF", "pub-tailwater/pub/beam/coder.ErrVarIntTooLong"], apart := false, laid := [("io.EOF", laid_io_EOF), ("pub-tailwater/pub/beam/coder.ErrVarIntTooLong", laid_pub_tailwater_pub_beam_coder_ErrVarIntTooLong)], narrowed := true }
def FnHeaderUptoSaid : Prop := fnHeaderUptoRow.holds Tryz.pinned (OpenSpec.upto fnHeaderSpec)

/-- 'laws.FnWindowsRead', WHERE WHAT IT READS IS OF BULK AT MOST 1048576: true; the input reads as it did. -/
def fnWindowsReadUptoRow : OpenClaim := { program := "ytgdbeiadlgkedaagreatdoor", sum := "81212c1174496a909477275e5f5705ca30b5291ddf2dc7b39f0a02f5c5228a04", func := "pub-tailwater/laws.FnWindowsRead", spec := "fnWindowsRead", inPlace := ["math.Float64frombits", "math.Float64bits", "math.Float32frombits", "math.Float32bits", "internal/abi.NoEscape"], unfollowed := true, recurses := true, named := ["encoding/binary.BigEndian", "io.EOF", "pub-tailwater/pub/beam/coder.ErrVarIntTooLong"], apart := false, laid := [("io.EOF", laid_io_EOF), ("pub-tailwater/pub/beam/coder.ErrVarIntTooLong", laid_pub_tailwater_pub_beam_coder_ErrVarIntTooLong)], narrowed := true }
def FnWindowsReadUptoSaid : Prop := fnWindowsReadUptoRow.holds Tryz.pinned (OpenSpec.upto fnWindowsReadSpec)

/-- 'laws.FnHeaderRead', WHERE WHAT IT READS IS OF BULK AT MOST 1048576: true; the input reads as it did. -/
def fnHeaderReadUptoRow : OpenClaim := { program := "ytgdbeiadlgkedaagreatdoor", sum := "81212c1174496a909477275e5f5705ca30b5291ddf2dc7b39f0a02f5c5228a04", func := "pub-tailwater/laws.FnHeaderRead", spec := "fnHeaderRead", inPlace := ["math.Float64frombits", "math.Float64bits", "math.Float32frombits", "math.Float32bits", "internal/abi.NoEscape"], unfollowed := true, recurses := true, named := ["encoding/binary.BigEndian", "io.EOF", "pub-tailwater/pub/beam/coder.ErrVarIntTooLong"], apart := false, laid := [("io.EOF", laid_io_EOF), ("pub-tailwater/pub/beam/coder.ErrVarIntTooLong", laid_pub_tailwater_pub_beam_coder_ErrVarIntTooLong)], narrowed := true }
def FnHeaderReadUptoSaid : Prop := fnHeaderReadUptoRow.holds Tryz.pinned (OpenSpec.upto fnHeaderReadSpec)

end Rows
end Go.Proofs.YtgdbeiadlgkedaaGreatDoor
