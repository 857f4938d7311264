/-
  NARROWER THAN 'FOR EVERY INPUT', by the rows' own cells (each row's printed sentence says how): FnBools: laid · FnCut: laid · FnDecode: laid · FnEncode: laid · FnPaneEarly: laid · FnThereBack: laid · FnTimeOrder: laid · FnVarLength: laid · FnVarLong: laid · FnPaneOf: laid · FnReadN: laid · FnFieldNil: laid · FnRowSimpleRead: laid · FnRowRead: laid · FnRowSimple: laid · FnRowHeader: laid · FnRowBack: laid.
  DERIVED. THE GIVEN ROWS OF THIS SEAT. 17 by the template 'for every input the law returns true; each argument reads behind the call as it read before'; 0 by the template 'total and deterministic' (their statements: YtgdbeiadlgkedaaDoorTotals.lean).
  GIVEN WITH THE SEED: the statements are not yours to turn. If you find one false, say at which input.
  Laid BY PROGRAM, IN A SANDBOX (cutbox-rows.mjs): the forced cells as the released guide's own fill.sh prints them over the translation 04e237962c52041f… (all of the seat's roots in one cut). By AI agents, Wed Nov 11 2026. No macro, syntax, notation, axiom, sorry.
-/
import Derived.Test.YtgdbeiadlgkedaaDoorChecked
import GoSem.Claim
import GoSem.ClaimJoined
import GoSem.ClaimMapViews
import Derived.JoinedTies
import Derived.KernelRfl
namespace Go.Proofs.YtgdbeiadlgkedaaDoor
/- THE CELL 'sum', in the pinned program and in every row, IS THE sha256 OF THE DUMP (.gsa) THAT YtgdbeiadlgkedaaDoorProg.lean LOADS. Nothing in Lean hashes anything: it is a label: what it is worth is what the hold of that sum in a sandbox is worth. -/
noncomputable def Tryd.pinned : Pinned := { name := "ytgdbeiadlgkedaadoor", sum := "04e237962c52041f4d91c29c5ba22fcf327c01c1ca65476206efc1ec0a37a963", checked := Tryd.checked }
namespace Rows
def none {H : Type} : Left H := { results := [], args := [] }

/- WHAT THE LISTED PACKAGE-LEVEL VARIABLES READ AS WHEN THE CALL BEGINS. Each datum BY PROGRAM (the guide's laid-datum.mjs) off the statement by which the dump's own 'gosem.cut.vars' lays the variable. In a bare row this is a premise. The card (YtgdbeiadlgkedaaDoorCards.lean) ties it to the program's text. -/
def laid_io_EOF {H : Type} : DataW H := .iface "*errors.errorString" (.ptr (.agg [.lit (.string [69, 79, 70])]))
def laid_pub_tailwater_pub_beam_coder_ErrVarIntTooLong {H : Type} : DataW H := .iface "*errors.errorString" (.ptr (.agg [.lit (.string [118, 97, 114, 105, 110, 116, 32, 116, 111, 111, 32, 108, 111, 110, 103])]))

/-- 'laws.FnBools': WHATEVER THE INPUT: true; the input reads as it did. -/
def fnBoolsSpec : ChangeSpec := { name := "fnBools", fn := fun _ => fun
  | [d] => { results := [.lit (.bool true)], args := [d] }
  | _ => none }
def fnBoolsRow : OpenClaim := { program := "ytgdbeiadlgkedaadoor", sum := "04e237962c52041f4d91c29c5ba22fcf327c01c1ca65476206efc1ec0a37a963", func := "pub-tailwater/laws.FnBools", spec := "fnBools", inPlace := ["math.Float64frombits", "math.Float64bits", "math.Float32frombits", "math.Float32bits", "internal/abi.NoEscape"], unfollowed := true, recurses := true, named := ["io.EOF", "pub-tailwater/pub/beam/coder.ErrVarIntTooLong", "encoding/binary.BigEndian"], apart := false, laid := [("io.EOF", laid_io_EOF), ("pub-tailwater/pub/beam/coder.ErrVarIntTooLong", laid_pub_tailwater_pub_beam_coder_ErrVarIntTooLong)] }
def FnBoolsSaid : Prop := fnBoolsRow.holds Tryd.pinned (OpenSpec.ofChange fnBoolsSpec)

/-- ITS FALSE NEIGHBOUR: 'it returns false'. Refute it at one input. -/
def fnBoolsWrong : ChangeSpec := { name := "fnBools", fn := fun _ => fun
  | [d] => { results := [.lit (.bool false)], args := [d] }
  | _ => none }
def FnBoolsWrongFalsely : Prop := fnBoolsRow.holds Tryd.pinned (OpenSpec.ofChange fnBoolsWrong)

/-- 'laws.FnCut': WHATEVER THE INPUT: true; the input reads as it did. -/
def fnCutSpec : ChangeSpec := { name := "fnCut", fn := fun _ => fun
  | [d1, d2] => { results := [.lit (.bool true)], args := [d1, d2] }
  | _ => none }
def fnCutRow : OpenClaim := { program := "ytgdbeiadlgkedaadoor", sum := "04e237962c52041f4d91c29c5ba22fcf327c01c1ca65476206efc1ec0a37a963", func := "pub-tailwater/laws.FnCut", spec := "fnCut", inPlace := ["math.Float64frombits", "math.Float64bits", "math.Float32frombits", "math.Float32bits", "internal/abi.NoEscape"], unfollowed := true, recurses := true, named := ["encoding/binary.BigEndian", "io.EOF", "pub-tailwater/pub/beam/coder.ErrVarIntTooLong"], apart := false, laid := [("io.EOF", laid_io_EOF), ("pub-tailwater/pub/beam/coder.ErrVarIntTooLong", laid_pub_tailwater_pub_beam_coder_ErrVarIntTooLong)] }
def FnCutSaid : Prop := fnCutRow.holds Tryd.pinned (OpenSpec.ofChange fnCutSpec)

/-- ITS FALSE NEIGHBOUR: 'it returns false'. Refute it at one input. -/
def fnCutWrong : ChangeSpec := { name := "fnCut", fn := fun _ => fun
  | [d1, d2] => { results := [.lit (.bool false)], args := [d1, d2] }
  | _ => none }
def FnCutWrongFalsely : Prop := fnCutRow.holds Tryd.pinned (OpenSpec.ofChange fnCutWrong)

/-- 'laws.FnDecode': WHATEVER THE INPUT: true; the input reads as it did. -/
def fnDecodeSpec : ChangeSpec := { name := "fnDecode", fn := fun _ => fun
  | [d1, d2] => { results := [.lit (.bool true)], args := [d1, d2] }
  | _ => none }
def fnDecodeRow : OpenClaim := { program := "ytgdbeiadlgkedaadoor", sum := "04e237962c52041f4d91c29c5ba22fcf327c01c1ca65476206efc1ec0a37a963", func := "pub-tailwater/laws.FnDecode", spec := "fnDecode", inPlace := ["math.Float64frombits", "math.Float64bits", "math.Float32frombits", "math.Float32bits", "internal/abi.NoEscape"], unfollowed := true, recurses := true, named := ["encoding/binary.BigEndian", "io.EOF", "pub-tailwater/pub/beam/coder.ErrVarIntTooLong"], apart := false, laid := [("io.EOF", laid_io_EOF), ("pub-tailwater/pub/beam/coder.ErrVarIntTooLong", laid_pub_tailwater_pub_beam_coder_ErrVarIntTooLong)] }
def FnDecodeSaid : Prop := fnDecodeRow.holds Tryd.pinned (OpenSpec.ofChange fnDecodeSpec)

/-- ITS FALSE NEIGHBOUR: 'it returns false'. Refute it at one input. -/
def fnDecodeWrong : ChangeSpec := { name := "fnDecode", fn := fun _ => fun
  | [d1, d2] => { results := [.lit (.bool false)], args := [d1, d2] }
  | _ => none }
def FnDecodeWrongFalsely : Prop := fnDecodeRow.holds Tryd.pinned (OpenSpec.ofChange fnDecodeWrong)

/-- 'laws.FnEncode': WHATEVER THE INPUT: true; the input reads as it did. -/
def fnEncodeSpec : ChangeSpec := { name := "fnEncode", fn := fun _ => fun
  | [d] => { results := [.lit (.bool true)], args := [d] }
  | _ => none }
def fnEncodeRow : OpenClaim := { program := "ytgdbeiadlgkedaadoor", sum := "04e237962c52041f4d91c29c5ba22fcf327c01c1ca65476206efc1ec0a37a963", func := "pub-tailwater/laws.FnEncode", spec := "fnEncode", inPlace := ["math.Float64frombits", "math.Float64bits", "math.Float32frombits", "math.Float32bits", "internal/abi.NoEscape"], unfollowed := true, recurses := true, named := ["encoding/binary.BigEndian", "io.EOF", "pub-tailwater/pub/beam/coder.ErrVarIntTooLong"], apart := false, laid := [("io.EOF", laid_io_EOF), ("pub-tailwater/pub/beam/coder.ErrVarIntTooLong", laid_pub_tailwater_pub_beam_coder_ErrVarIntTooLong)] }
def FnEncodeSaid : Prop := fnEncodeRow.holds Tryd.pinned (OpenSpec.ofChange fnEncodeSpec)

/-- ITS FALSE NEIGHBOUR: 'it returns false'. Refute it at one input. -/
def fnEncodeWrong : ChangeSpec := { name := "fnEncode", fn := fun _ => fun
  | [d] => { results := [.lit (.bool false)], args := [d] }
  | _ => none }
def FnEncodeWrongFalsely : Prop := fnEncodeRow.holds Tryd.pinned (OpenSpec.ofChange fnEncodeWrong)

/-- 'laws.FnPaneEarly': WHATEVER THE INPUT: true; the input reads as it did. -/
def fnPaneEarlySpec : ChangeSpec := { name := "fnPaneEarly", fn := fun _ => fun
  | [d] => { results := [.lit (.bool true)], args := [d] }
  | _ => none }
def fnPaneEarlyRow : OpenClaim := { program := "ytgdbeiadlgkedaadoor", sum := "04e237962c52041f4d91c29c5ba22fcf327c01c1ca65476206efc1ec0a37a963", func := "pub-tailwater/laws.FnPaneEarly", spec := "fnPaneEarly", inPlace := ["math.Float64frombits", "math.Float64bits", "math.Float32frombits", "math.Float32bits", "internal/abi.NoEscape"], unfollowed := true, recurses := true, named := ["encoding/binary.BigEndian", "io.EOF", "pub-tailwater/pub/beam/coder.ErrVarIntTooLong"], apart := false, laid := [("io.EOF", laid_io_EOF), ("pub-tailwater/pub/beam/coder.ErrVarIntTooLong", laid_pub_tailwater_pub_beam_coder_ErrVarIntTooLong)] }
def FnPaneEarlySaid : Prop := fnPaneEarlyRow.holds Tryd.pinned (OpenSpec.ofChange fnPaneEarlySpec)

/-- ITS FALSE NEIGHBOUR: 'it returns false'. Refute it at one input. -/
def fnPaneEarlyWrong : ChangeSpec := { name := "fnPaneEarly", fn := fun _ => fun
  | [d] => { results := [.lit (.bool false)], args := [d] }
  | _ => none }
def FnPaneEarlyWrongFalsely : Prop := fnPaneEarlyRow.holds Tryd.pinned (OpenSpec.ofChange fnPaneEarlyWrong)

/-- 'laws.FnThereBack': WHATEVER THE INPUT: true; the input reads as it did. -/
def fnThereBackSpec : ChangeSpec := { name := "fnThereBack", fn := fun _ => fun
  | [d1, d2] => { results := [.lit (.bool true)], args := [d1, d2] }
  | _ => none }
def fnThereBackRow : OpenClaim := { program := "ytgdbeiadlgkedaadoor", sum := "04e237962c52041f4d91c29c5ba22fcf327c01c1ca65476206efc1ec0a37a963", func := "pub-tailwater/laws.FnThereBack", spec := "fnThereBack", inPlace := ["math.Float64frombits", "math.Float64bits", "math.Float32frombits", "math.Float32bits", "internal/abi.NoEscape"], unfollowed := true, recurses := true, named := ["encoding/binary.BigEndian", "io.EOF", "pub-tailwater/pub/beam/coder.ErrVarIntTooLong"], apart := false, laid := [("io.EOF", laid_io_EOF), ("pub-tailwater/pub/beam/coder.ErrVarIntTooLong", laid_pub_tailwater_pub_beam_coder_ErrVarIntTooLong)] }
def FnThereBackSaid : Prop := fnThereBackRow.holds Tryd.pinned (OpenSpec.ofChange fnThereBackSpec)

/-- ITS FALSE NEIGHBOUR: 'it returns false'. Refute it at one input. -/
def fnThereBackWrong : ChangeSpec := { name := "fnThereBack", fn := fun _ => fun
  | [d1, d2] => { results := [.lit (.bool false)], args := [d1, d2] }
  | _ => none }
def FnThereBackWrongFalsely : Prop := fnThereBackRow.holds Tryd.pinned (OpenSpec.ofChange fnThereBackWrong)

/-- 'laws.FnTimeOrder': WHATEVER THE INPUT: true; the input reads as it did. -/
def fnTimeOrderSpec : ChangeSpec := { name := "fnTimeOrder", fn := fun _ => fun
  | [d1, d2] => { results := [.lit (.bool true)], args := [d1, d2] }
  | _ => none }
def fnTimeOrderRow : OpenClaim := { program := "ytgdbeiadlgkedaadoor", sum := "04e237962c52041f4d91c29c5ba22fcf327c01c1ca65476206efc1ec0a37a963", func := "pub-tailwater/laws.FnTimeOrder", spec := "fnTimeOrder", inPlace := ["math.Float64frombits", "math.Float64bits", "math.Float32frombits", "math.Float32bits", "internal/abi.NoEscape"], unfollowed := true, recurses := true, named := ["encoding/binary.BigEndian", "io.EOF", "pub-tailwater/pub/beam/coder.ErrVarIntTooLong"], apart := false, laid := [("io.EOF", laid_io_EOF), ("pub-tailwater/pub/beam/coder.ErrVarIntTooLong", laid_pub_tailwater_pub_beam_coder_ErrVarIntTooLong)] }
def FnTimeOrderSaid : Prop := fnTimeOrderRow.holds Tryd.pinned (OpenSpec.ofChange fnTimeOrderSpec)

/-- ITS FALSE NEIGHBOUR: 'it returns false'. Refute it at one input. -/
def fnTimeOrderWrong : ChangeSpec := { name := "fnTimeOrder", fn := fun _ => fun
  | [d1, d2] => { results := [.lit (.bool false)], args := [d1, d2] }
  | _ => none }
def FnTimeOrderWrongFalsely : Prop := fnTimeOrderRow.holds Tryd.pinned (OpenSpec.ofChange fnTimeOrderWrong)

/-- 'laws.FnVarLength': WHATEVER THE INPUT: true; the input reads as it did. -/
def fnVarLengthSpec : ChangeSpec := { name := "fnVarLength", fn := fun _ => fun
  | [d] => { results := [.lit (.bool true)], args := [d] }
  | _ => none }
def fnVarLengthRow : OpenClaim := { program := "ytgdbeiadlgkedaadoor", sum := "04e237962c52041f4d91c29c5ba22fcf327c01c1ca65476206efc1ec0a37a963", func := "pub-tailwater/laws.FnVarLength", spec := "fnVarLength", inPlace := ["math.Float64frombits", "math.Float64bits", "math.Float32frombits", "math.Float32bits", "internal/abi.NoEscape"], unfollowed := true, recurses := true, named := ["encoding/binary.BigEndian", "io.EOF", "pub-tailwater/pub/beam/coder.ErrVarIntTooLong"], apart := false, laid := [("io.EOF", laid_io_EOF), ("pub-tailwater/pub/beam/coder.ErrVarIntTooLong", laid_pub_tailwater_pub_beam_coder_ErrVarIntTooLong)] }
def FnVarLengthSaid : Prop := fnVarLengthRow.holds Tryd.pinned (OpenSpec.ofChange fnVarLengthSpec)

/-- ITS FALSE NEIGHBOUR: 'it returns false'. Refute it at one input. -/
def fnVarLengthWrong : ChangeSpec := { name := "fnVarLength", fn := fun _ => fun
  | [d] => { results := [.lit (.bool false)], args := [d] }
  | _ => none }
def FnVarLengthWrongFalsely : Prop := fnVarLengthRow.holds Tryd.pinned (OpenSpec.ofChange fnVarLengthWrong)

/-- 'laws.FnVarLong': WHATEVER THE INPUT: true; the input reads as it did. -/
def fnVarLongSpec : ChangeSpec := { name := "fnVarLong", fn := fun _ => fun
  | [d1, d2] => { results := [.lit (.bool true)], args := [d1, d2] }
  | _ => none }
def fnVarLongRow : OpenClaim := { program := "ytgdbeiadlgkedaadoor", sum := "04e237962c52041f4d91c29c5ba22fcf327c01c1ca65476206efc1ec0a37a963", func := "pub-tailwater/laws.FnVarLong", spec := "fnVarLong", inPlace := ["math.Float64frombits", "math.Float64bits", "math.Float32frombits", "math.Float32bits", "internal/abi.NoEscape"], unfollowed := true, recurses := true, named := ["io.EOF", "pub-tailwater/pub/beam/coder.ErrVarIntTooLong", "encoding/binary.BigEndian"], apart := false, laid := [("io.EOF", laid_io_EOF), ("pub-tailwater/pub/beam/coder.ErrVarIntTooLong", laid_pub_tailwater_pub_beam_coder_ErrVarIntTooLong)] }
def FnVarLongSaid : Prop := fnVarLongRow.holds Tryd.pinned (OpenSpec.ofChange fnVarLongSpec)

/-- ITS FALSE NEIGHBOUR: 'it returns false'. Refute it at one input. -/
def fnVarLongWrong : ChangeSpec := { name := "fnVarLong", fn := fun _ => fun
  | [d1, d2] => { results := [.lit (.bool false)], args := [d1, d2] }
  | _ => none }
def FnVarLongWrongFalsely : Prop := fnVarLongRow.holds Tryd.pinned (OpenSpec.ofChange fnVarLongWrong)

/-- 'laws.FnPaneOf': WHATEVER THE INPUT: true; the input reads as it did. -/
def fnPaneOfSpec : ChangeSpec := { name := "fnPaneOf", fn := fun _ => fun
  | [d] => { results := [.lit (.bool true)], args := [d] }
  | _ => none }
def fnPaneOfRow : OpenClaim := { program := "ytgdbeiadlgkedaadoor", sum := "04e237962c52041f4d91c29c5ba22fcf327c01c1ca65476206efc1ec0a37a963", func := "pub-tailwater/laws.FnPaneOf", spec := "fnPaneOf", inPlace := ["math.Float64frombits", "math.Float64bits", "math.Float32frombits", "math.Float32bits", "internal/abi.NoEscape"], unfollowed := true, recurses := true, named := ["encoding/binary.BigEndian", "io.EOF", "pub-tailwater/pub/beam/coder.ErrVarIntTooLong"], apart := false, laid := [("io.EOF", laid_io_EOF), ("pub-tailwater/pub/beam/coder.ErrVarIntTooLong", laid_pub_tailwater_pub_beam_coder_ErrVarIntTooLong)] }
def FnPaneOfSaid : Prop := fnPaneOfRow.holds Tryd.pinned (OpenSpec.ofChange fnPaneOfSpec)

/-- ITS FALSE NEIGHBOUR: 'it returns false'. Refute it at one input. -/
def fnPaneOfWrong : ChangeSpec := { name := "fnPaneOf", fn := fun _ => fun
  | [d] => { results := [.lit (.bool false)], args := [d] }
  | _ => none }
def FnPaneOfWrongFalsely : Prop := fnPaneOfRow.holds Tryd.pinned (OpenSpec.ofChange fnPaneOfWrong)

/-- 'laws.FnReadN': WHATEVER THE INPUT: true; the input reads as it did. -/
def fnReadNSpec : ChangeSpec := { name := "fnReadN", fn := fun _ => fun
  | [d1, d2] => { results := [.lit (.bool true)], args := [d1, d2] }
  | _ => none }
def fnReadNRow : OpenClaim := { program := "ytgdbeiadlgkedaadoor", sum := "04e237962c52041f4d91c29c5ba22fcf327c01c1ca65476206efc1ec0a37a963", func := "pub-tailwater/laws.FnReadN", spec := "fnReadN", inPlace := ["math.Float64frombits", "math.Float64bits", "math.Float32frombits", "math.Float32bits", "internal/abi.NoEscape"], unfollowed := true, recurses := true, named := ["encoding/binary.BigEndian", "io.EOF", "pub-tailwater/pub/beam/coder.ErrVarIntTooLong"], apart := false, laid := [("io.EOF", laid_io_EOF), ("pub-tailwater/pub/beam/coder.ErrVarIntTooLong", laid_pub_tailwater_pub_beam_coder_ErrVarIntTooLong)] }
def FnReadNSaid : Prop := fnReadNRow.holds Tryd.pinned (OpenSpec.ofChange fnReadNSpec)

/-- ITS FALSE NEIGHBOUR: 'it returns false'. Refute it at one input. -/
def fnReadNWrong : ChangeSpec := { name := "fnReadN", fn := fun _ => fun
  | [d1, d2] => { results := [.lit (.bool false)], args := [d1, d2] }
  | _ => none }
def FnReadNWrongFalsely : Prop := fnReadNRow.holds Tryd.pinned (OpenSpec.ofChange fnReadNWrong)

/-- 'laws.FnFieldNil': WHATEVER THE INPUT: true; the input reads as it did. -/
def fnFieldNilSpec : ChangeSpec := { name := "fnFieldNil", fn := fun _ => fun
  | [d1, d2] => { results := [.lit (.bool true)], args := [d1, d2] }
  | _ => none }
def fnFieldNilRow : OpenClaim := { program := "ytgdbeiadlgkedaadoor", sum := "04e237962c52041f4d91c29c5ba22fcf327c01c1ca65476206efc1ec0a37a963", func := "pub-tailwater/laws.FnFieldNil", spec := "fnFieldNil", inPlace := ["math.Float64frombits", "math.Float64bits", "math.Float32frombits", "math.Float32bits", "internal/abi.NoEscape"], unfollowed := true, recurses := true, named := ["encoding/binary.BigEndian", "io.EOF", "pub-tailwater/pub/beam/coder.ErrVarIntTooLong"], apart := false, laid := [("io.EOF", laid_io_EOF), ("pub-tailwater/pub/beam/coder.ErrVarIntTooLong", laid_pub_tailwater_pub_beam_coder_ErrVarIntTooLong)] }
def FnFieldNilSaid : Prop := fnFieldNilRow.holds Tryd.pinned (OpenSpec.ofChange fnFieldNilSpec)

/-- ITS FALSE NEIGHBOUR: 'it returns false'. Refute it at one input. -/
def fnFieldNilWrong : ChangeSpec := { name := "fnFieldNil", fn := fun _ => fun
  | [d1, d2] => { results := [.lit (.bool false)], args := [d1, d2] }
  | _ => none }
def FnFieldNilWrongFalsely : Prop := fnFieldNilRow.holds Tryd.pinned (OpenSpec.ofChange fnFieldNilWrong)

/-- 'laws.FnRowSimpleRead': WHATEVER THE INPUT: true; the input reads as it did. -/
def fnRowSimpleReadSpec : ChangeSpec := { name := "fnRowSimpleRead", fn := fun _ => fun
  | [d1, d2] => { results := [.lit (.bool true)], args := [d1, d2] }
  | _ => none }
def fnRowSimpleReadRow : OpenClaim := { program := "ytgdbeiadlgkedaadoor", sum := "04e237962c52041f4d91c29c5ba22fcf327c01c1ca65476206efc1ec0a37a963", func := "pub-tailwater/laws.FnRowSimpleRead", spec := "fnRowSimpleRead", inPlace := ["math.Float64frombits", "math.Float64bits", "math.Float32frombits", "math.Float32bits", "internal/abi.NoEscape"], unfollowed := true, recurses := true, named := ["encoding/binary.BigEndian", "io.EOF", "pub-tailwater/pub/beam/coder.ErrVarIntTooLong"], apart := false, laid := [("io.EOF", laid_io_EOF), ("pub-tailwater/pub/beam/coder.ErrVarIntTooLong", laid_pub_tailwater_pub_beam_coder_ErrVarIntTooLong)] }
def FnRowSimpleReadSaid : Prop := fnRowSimpleReadRow.holds Tryd.pinned (OpenSpec.ofChange fnRowSimpleReadSpec)

/-- ITS FALSE NEIGHBOUR: 'it returns false'. Refute it at one input. -/
def fnRowSimpleReadWrong : ChangeSpec := { name := "fnRowSimpleRead", fn := fun _ => fun
  | [d1, d2] => { results := [.lit (.bool false)], args := [d1, d2] }
  | _ => none }
def FnRowSimpleReadWrongFalsely : Prop := fnRowSimpleReadRow.holds Tryd.pinned (OpenSpec.ofChange fnRowSimpleReadWrong)

/-- 'laws.FnRowRead': WHATEVER THE INPUT: true; the input reads as it did. -/
def fnRowReadSpec : ChangeSpec := { name := "fnRowRead", fn := fun _ => fun
  | [d] => { results := [.lit (.bool true)], args := [d] }
  | _ => none }
def fnRowReadRow : OpenClaim := { program := "ytgdbeiadlgkedaadoor", sum := "04e237962c52041f4d91c29c5ba22fcf327c01c1ca65476206efc1ec0a37a963", func := "pub-tailwater/laws.FnRowRead", spec := "fnRowRead", inPlace := ["math.Float64frombits", "math.Float64bits", "math.Float32frombits", "math.Float32bits", "internal/abi.NoEscape"], unfollowed := true, recurses := true, named := ["encoding/binary.BigEndian", "io.EOF", "pub-tailwater/pub/beam/coder.ErrVarIntTooLong"], apart := false, laid := [("io.EOF", laid_io_EOF), ("pub-tailwater/pub/beam/coder.ErrVarIntTooLong", laid_pub_tailwater_pub_beam_coder_ErrVarIntTooLong)] }
def FnRowReadSaid : Prop := fnRowReadRow.holds Tryd.pinned (OpenSpec.ofChange fnRowReadSpec)

/-- ITS FALSE NEIGHBOUR: 'it returns false'. Refute it at one input. -/
def fnRowReadWrong : ChangeSpec := { name := "fnRowRead", fn := fun _ => fun
  | [d] => { results := [.lit (.bool false)], args := [d] }
  | _ => none }
def FnRowReadWrongFalsely : Prop := fnRowReadRow.holds Tryd.pinned (OpenSpec.ofChange fnRowReadWrong)

/-- 'laws.FnRowSimple': WHATEVER THE INPUT: true; the input reads as it did. -/
def fnRowSimpleSpec : ChangeSpec := { name := "fnRowSimple", fn := fun _ => fun
  | [d1, d2, d3] => { results := [.lit (.bool true)], args := [d1, d2, d3] }
  | _ => none }
def fnRowSimpleRow : OpenClaim := { program := "ytgdbeiadlgkedaadoor", sum := "04e237962c52041f4d91c29c5ba22fcf327c01c1ca65476206efc1ec0a37a963", func := "pub-tailwater/laws.FnRowSimple", spec := "fnRowSimple", inPlace := ["math.Float64frombits", "math.Float64bits", "math.Float32frombits", "math.Float32bits", "internal/abi.NoEscape"], unfollowed := true, recurses := true, named := ["encoding/binary.BigEndian", "io.EOF", "pub-tailwater/pub/beam/coder.ErrVarIntTooLong"], apart := false, laid := [("io.EOF", laid_io_EOF), ("pub-tailwater/pub/beam/coder.ErrVarIntTooLong", laid_pub_tailwater_pub_beam_coder_ErrVarIntTooLong)] }
def FnRowSimpleSaid : Prop := fnRowSimpleRow.holds Tryd.pinned (OpenSpec.ofChange fnRowSimpleSpec)

/-- ITS FALSE NEIGHBOUR: 'it returns false'. Refute it at one input. -/
def fnRowSimpleWrong : ChangeSpec := { name := "fnRowSimple", fn := fun _ => fun
  | [d1, d2, d3] => { results := [.lit (.bool false)], args := [d1, d2, d3] }
  | _ => none }
def FnRowSimpleWrongFalsely : Prop := fnRowSimpleRow.holds Tryd.pinned (OpenSpec.ofChange fnRowSimpleWrong)

/-- 'laws.FnRowHeader': WHATEVER THE INPUT: true; the input reads as it did. -/
def fnRowHeaderSpec : ChangeSpec := { name := "fnRowHeader", fn := fun _ => fun
  | [d1, d2] => { results := [.lit (.bool true)], args := [d1, d2] }
  | _ => none }
def fnRowHeaderRow : OpenClaim := { program := "ytgdbeiadlgkedaadoor", sum := "04e237962c52041f4d91c29c5ba22fcf327c01c1ca65476206efc1ec0a37a963", func := "pub-tailwater/laws.FnRowHeader", spec := "fnRowHeader", inPlace := ["math.Float64frombits", "math.Float64bits", "math.Float32frombits", "math.Float32bits", "internal/abi.NoEscape"], unfollowed := true, recurses := true, named := ["encoding/binary.BigEndian", "io.EOF", "pub-tailwater/pub/beam/coder.ErrVarIntTooLong"], apart := false, laid := [("io.EOF", laid_io_EOF), ("pub-tailwater/pub/beam/coder.ErrVarIntTooLong", laid_pub_tailwater_pub_beam_coder_ErrVarIntTooLong)] }
def FnRowHeaderSaid : Prop := fnRowHeaderRow.holds Tryd.pinned (OpenSpec.ofChange fnRowHeaderSpec)

/-- ITS FALSE NEIGHBOUR: 'it returns false'. Refute it at one input. -/
def fnRowHeaderWrong : ChangeSpec := { name := "fnRowHeader", fn := fun _ => fun
  | [d1, d2] => { results := [.lit (.bool false)], args := [d1, d2] }
  | _ => none }
def FnRowHeaderWrongFalsely : Prop := fnRowHeaderRow.holds Tryd.pinned (OpenSpec.ofChange fnRowHeaderWrong)

/-- 'laws.FnRowBack': WHATEVER THE INPUT: true; the input reads as it did. -/
def fnRowBackSpec : ChangeSpec := { name := "fnRowBack", fn := fun _ => fun
  | [d1, d2, d3] => { results := [.lit (.bool true)], args := [d1, d2, d3] }
  | _ => none }
def fnRowBackRow : OpenClaim := { program := "ytgdbeiadlgkedaadoor", sum := "04e237962c52041f4d91c29c5ba22fcf327c01c1ca65476206efc1ec0a37a963", func := "pub-tailwater/laws.FnRowBack", spec := "fnRowBack", inPlace := ["math.Float64frombits", "math.Float64bits", "math.Float32frombits", "math.Float32bits", "internal/abi.NoEscape"], unfollowed := true, recurses := true, named := ["encoding/binary.BigEndian", "io.EOF", "pub-tailwater/pub/beam/coder.ErrVarIntTooLong"], apart := false, laid := [("io.EOF", laid_io_EOF), ("pub-tailwater/pub/beam/coder.ErrVarIntTooLong", laid_pub_tailwater_pub_beam_coder_ErrVarIntTooLong)] }
def FnRowBackSaid : Prop := fnRowBackRow.holds Tryd.pinned (OpenSpec.ofChange fnRowBackSpec)

/-- ITS FALSE NEIGHBOUR: 'it returns false'. Refute it at one input. -/
def fnRowBackWrong : ChangeSpec := { name := "fnRowBack", fn := fun _ => fun
  | [d1, d2, d3] => { results := [.lit (.bool false)], args := [d1, d2, d3] }
  | _ => none }
def FnRowBackWrongFalsely : Prop := fnRowBackRow.holds Tryd.pinned (OpenSpec.ofChange fnRowBackWrong)

/- THE SECOND FORM. 'bulk': how many values and letters a reading holds, each counted each time it is reached (what is shared counts as often as it is met; a slice's spare places count too). A statement '..UptoSaid' is the law's where the arguments, and the package variables that the reading takes, are together of bulk at most 1048576: NARROWER than '..Said'. Prove '..Said' where nothing that the law and all that it calls make is longer than what came in: it says more and counts as full. Else prove '..UptoSaid'. A law counts once. -/
mutual
def uptoBulk {H : Type} : DataW H → Nat
  | .lit (.string bytes) => bytes.length + 1
  | .lit _ => 1
  | .nil => 1
  | .ptr d => uptoBulk d + 1
  | .slice elems spare => uptoBulkAll elems + uptoBulkAll spare + 1
  | .agg parts => uptoBulkAll parts + 1
  | .iface _ d => uptoBulk d + 1
  | .map entries => uptoBulkEntries entries + 1
  | .held _ => 1
def uptoBulkAll {H : Type} : List (DataW H) → Nat
  | [] => 0
  | d :: r => uptoBulk d + uptoBulkAll r
def uptoBulkEntries {H : Type} : List (Lit × DataW H) → Nat
  | [] => 0
  | x :: r => uptoBulkEntry x + uptoBulkEntries r
def uptoBulkEntry {H : Type} : Lit × DataW H → Nat
  | (.string bytes, d) => bytes.length + uptoBulk d + 1
  | (_, d) => uptoBulk d + 1
 end
def uptoSmall : (H : Type) → List (DataW H) → Bool := fun _ ds => decide (uptoBulkAll ds ≤ 1048576)
def OpenSpec.upto (s : _root_.Go.ChangeSpec) : _root_.Go.OpenSpec := { _root_.Go.OpenSpec.ofChange s with cond := some uptoSmall }

/-- 'laws.FnBools', WHERE WHAT IT READS IS OF BULK AT MOST 1048576: true; the input reads as it did. -/
def fnBoolsUptoRow : OpenClaim := { program := "ytgdbeiadlgkedaadoor", sum := "04e237962c52041f4d91c29c5ba22fcf327c01c1ca65476206efc1ec0a37a963", func := "pub-tailwater/laws.FnBools", spec := "fnBools", inPlace := ["math.Float64frombits", "math.Float64bits", "math.Float32frombits", "math.Float32bits", "internal/abi.NoEscape"], unfollowed := true, recurses := true, named := ["io.EOF", "pub-tailwater/pub/beam/coder.ErrVarIntTooLong", "encoding/binary.BigEndian"], apart := false, laid := [("io.EOF", laid_io_EOF), ("pub-tailwater/pub/beam/coder.ErrVarIntTooLong", laid_pub_tailwater_pub_beam_coder_ErrVarIntTooLong)], narrowed := true }
def FnBoolsUptoSaid : Prop := fnBoolsUptoRow.holds Tryd.pinned (OpenSpec.upto fnBoolsSpec)

/-- 'laws.FnCut', WHERE WHAT IT READS IS OF BULK AT MOST 1048576: true; the input reads as it did. -/
def fnCutUptoRow : OpenClaim := { program := "ytgdbeiadlgkedaadoor", sum := "04e237962c52041f4d91c29c5ba22fcf327c01c1ca65476206efc1ec0a37a963", func := "pub-tailwater/laws.FnCut", spec := "fnCut", inPlace := ["math.Float64frombits", "math.Float64bits", "math.Float32frombits", "math.Float32bits", "internal/abi.NoEscape"], unfollowed := true, recurses := true, named := ["encoding/binary.BigEndian", "io.EOF", "pub-tailwater/pub/beam/coder.ErrVarIntTooLong"], apart := false, laid := [("io.EOF", laid_io_EOF), ("pub-tailwater/pub/beam/coder.ErrVarIntTooLong", laid_pub_tailwater_pub_beam_coder_ErrVarIntTooLong)], narrowed := true }
def FnCutUptoSaid : Prop := fnCutUptoRow.holds Tryd.pinned (OpenSpec.upto fnCutSpec)

/-- 'laws.FnDecode', WHERE WHAT IT READS IS OF BULK AT MOST 1048576: true; the input reads as it did. -/
def fnDecodeUptoRow : OpenClaim := { program := "ytgdbeiadlgkedaadoor", sum := "04e237962c52041f4d91c29c5ba22fcf327c01c1ca65476206efc1ec0a37a963", func := "pub-tailwater/laws.FnDecode", spec := "fnDecode", inPlace := ["math.Float64frombits", "math.Float64bits", "math.Float32frombits", "math.Float32bits", "internal/abi.NoEscape"], unfollowed := true, recurses := true, named := ["encoding/binary.BigEndian", "io.EOF", "pub-tailwater/pub/beam/coder.ErrVarIntTooLong"], apart := false, laid := [("io.EOF", laid_io_EOF), ("pub-tailwater/pub/beam/coder.ErrVarIntTooLong", laid_pub_tailwater_pub_beam_coder_ErrVarIntTooLong)], narrowed := true }
def FnDecodeUptoSaid : Prop := fnDecodeUptoRow.holds Tryd.pinned (OpenSpec.upto fnDecodeSpec)

/-- 'laws.FnEncode', WHERE WHAT IT READS IS OF BULK AT MOST 1048576: true; the input reads as it did. -/
def fnEncodeUptoRow : OpenClaim := { program := "ytgdbeiadlgkedaadoor", sum := "04e237962c52041f4d91c29c5ba22fcf327c01c1ca65476206efc1ec0a37a963", func := "pub-tailwater/laws.FnEncode", spec := "fnEncode", inPlace := ["math.Float64frombits", "math.Float64bits", "math.Float32frombits", "math.Float32bits", "internal/abi.NoEscape"], unfollowed := true, recurses := true, named := ["encoding/binary.BigEndian", "io.EOF", "pub-tailwater/pub/beam/coder.ErrVarIntTooLong"], apart := false, laid := [("io.EOF", laid_io_EOF), ("pub-tailwater/pub/beam/coder.ErrVarIntTooLong", laid_pub_tailwater_pub_beam_coder_ErrVarIntTooLong)], narrowed := true }
def FnEncodeUptoSaid : Prop := fnEncodeUptoRow.holds Tryd.pinned (OpenSpec.upto fnEncodeSpec)

/-- 'laws.FnPaneEarly', WHERE WHAT IT READS IS OF BULK AT MOST 1048576: true; the input reads as it did. -/
def fnPaneEarlyUptoRow : OpenClaim := { program := "ytgdbeiadlgkedaadoor", sum := "04e237962c52041f4d91c29c5ba22fcf327c01c1ca65476206efc1ec0a37a963", func := "pub-tailwater/laws.FnPaneEarly", spec := "fnPaneEarly", inPlace := ["math.Float64frombits", "math.Float64bits", "math.Float32frombits", "math.Float32bits", "internal/abi.NoEscape"], unfollowed := true, recurses := true, named := ["encoding/binary.BigEndian", "io.EOF", "pub-tailwater/pub/beam/coder.ErrVarIntTooLong"], apart := false, laid := [("io.EOF", laid_io_EOF), ("pub-tailwater/pub/beam/coder.ErrVarIntTooLong", laid_pub_tailwater_pub_beam_coder_ErrVarIntTooLong)], narrowed := true }
def FnPaneEarlyUptoSaid : Prop := fnPaneEarlyUptoRow.holds Tryd.pinned (OpenSpec.upto fnPaneEarlySpec)

/-- 'laws.FnThereBack', WHERE WHAT IT READS IS OF BULK AT MOST 1048576: true; the input reads as it did. -/
def fnThereBackUptoRow : OpenClaim := { program := "ytgdbeiadlgkedaadoor", sum := "04e237962c52041f4d91c29c5ba22fcf327c01c1ca65476206efc1ec0a37a963", func := "pub-tailwater/laws.FnThereBack", spec := "fnThereBack", inPlace := ["math.Float64frombits", "math.Float64bits", "math.Float32frombits", "math.Float32bits", "internal/abi.NoEscape"], unfollowed := true, recurses := true, named := ["encoding/binary.BigEndian", "io.EOF", "pub-tailwater/pub/beam/coder.ErrVarIntTooLong"], apart := false, laid := [("io.EOF", laid_io_EOF), ("pub-tailwater/pub/beam/coder.ErrVarIntTooLong", laid_pub_tailwater_pub_beam_coder_ErrVarIntTooLong)], narrowed := true }
def FnThereBackUptoSaid : Prop := fnThereBackUptoRow.holds Tryd.pinned (OpenSpec.upto fnThereBackSpec)

/-- 'laws.FnTimeOrder', WHERE WHAT IT READS IS OF BULK AT MOST 1048576: true; the input reads as it did. -/
def fnTimeOrderUptoRow : OpenClaim := { program := "ytgdbeiadlgkedaadoor", sum := "04e237962c52041f4d91c29c5ba22fcf327c01c1ca65476206efc1ec0a37a963", func := "pub-tailwater/laws.FnTimeOrder", spec := "fnTimeOrder", inPlace := ["math.Float64frombits", "math.Float64bits", "math.Float32frombits", "math.Float32bits", "internal/abi.NoEscape"], unfollowed := true, recurses := true, named := ["encoding/binary.BigEndian", "io.EOF", "pub-tailwater/pub/beam/coder.ErrVarIntTooLong"], apart := false, laid := [("io.EOF", laid_io_EOF), ("pub-tailwater/pub/beam/coder.ErrVarIntTooLong", laid_pub_tailwater_pub_beam_coder_ErrVarIntTooLong)], narrowed := true }
def FnTimeOrderUptoSaid : Prop := fnTimeOrderUptoRow.holds Tryd.pinned (OpenSpec.upto fnTimeOrderSpec)

/-- 'laws.FnVarLength', WHERE WHAT IT READS IS OF BULK AT MOST 1048576: true; the input reads as it did. -/
def fnVarLengthUptoRow : OpenClaim := { program := "ytgdbeiadlgkedaadoor", sum := "04e237962c52041f4d91c29c5ba22fcf327c01c1ca65476206efc1ec0a37a963", func := "pub-tailwater/laws.FnVarLength", spec := "fnVarLength", inPlace := ["math.Float64frombits", "math.Float64bits", "math.Float32frombits", "math.Float32bits", "internal/abi.NoEscape"], unfollowed := true, recurses := true, named := ["encoding/binary.BigEndian", "io.EOF", "pub-tailwater/pub/beam/coder.ErrVarIntTooLong"], apart := false, laid := [("io.EOF", laid_io_EOF), ("pub-tailwater/pub/beam/coder.ErrVarIntTooLong", laid_pub_tailwater_pub_beam_coder_ErrVarIntTooLong)], narrowed := true }
def FnVarLengthUptoSaid : Prop := fnVarLengthUptoRow.holds Tryd.pinned (OpenSpec.upto fnVarLengthSpec)

/-- 'laws.FnVarLong', WHERE WHAT IT READS IS OF BULK AT MOST 1048576: true; the input reads as it did. -/
def fnVarLongUptoRow : OpenClaim := { program := "ytgdbeiadlgkedaadoor", sum := "04e237962c52041f4d91c29c5ba22fcf327c01c1ca65476206efc1ec0a37a963", func := "pub-tailwater/laws.FnVarLong", spec := "fnVarLong", inPlace := ["math.Float64frombits", "math.Float64bits", "math.Float32frombits", "math.Float32bits", "internal/abi.NoEscape"], unfollowed := true, recurses := true, named := ["io.EOF", "pub-tailwater/pub/beam/coder.ErrVarIntTooLong", "encoding/binary.BigEndian"], apart := false, laid := [("io.EOF", laid_io_EOF), ("pub-tailwater/pub/beam/coder.ErrVarIntTooLong", laid_pub_tailwater_pub_beam_coder_ErrVarIntTooLong)], narrowed := true }
def FnVarLongUptoSaid : Prop := fnVarLongUptoRow.holds Tryd.pinned (OpenSpec.upto fnVarLongSpec)

/-- 'laws.FnPaneOf', WHERE WHAT IT READS IS OF BULK AT MOST 1048576: true; the input reads as it did. -/
def fnPaneOfUptoRow : OpenClaim := { program := "ytgdbeiadlgkedaadoor", sum := "04e237962c52041f4d91c29c5ba22fcf327c01c1ca65476206efc1ec0a37a963", func := "pub-tailwater/laws.FnPaneOf", spec := "fnPaneOf", inPlace := ["math.Float64frombits", "math.Float64bits", "math.Float32frombits", "math.Float32bits", "internal/abi.NoEscape"], unfollowed := true, recurses := true, named := ["encoding/binary.BigEndian", "io.EOF", "pub-tailwater/pub/beam/coder.ErrVarIntTooLong"], apart := false, laid := [("io.EOF", laid_io_EOF), ("pub-tailwater/pub/beam/coder.ErrVarIntTooLong", laid_pub_tailwater_pub_beam_coder_ErrVarIntTooLong)], narrowed := true }
def FnPaneOfUptoSaid : Prop := fnPaneOfUptoRow.holds Tryd.pinned (OpenSpec.upto fnPaneOfSpec)

/-- 'laws.FnReadN', WHERE WHAT IT READS IS OF BULK AT MOST 1048576: true; the input reads as it did. -/
def fnReadNUptoRow : OpenClaim := { program := "ytgdbeiadlgkedaadoor", sum := "04e237962c52041f4d91c29c5ba22fcf327c01c1ca65476206efc1ec0a37a963", func := "pub-tailwater/laws.FnReadN", spec := "fnReadN", inPlace := ["math.Float64frombits", "math.Float64bits", "math.Float32frombits", "math.Float32bits", "internal/abi.NoEscape"], unfollowed := true, recurses := true, named := ["encoding/binary.BigEndian", "io.EOF", "pub-tailwater/pub/beam/coder.ErrVarIntTooLong"], apart := false, laid := [("io.EOF", laid_io_EOF), ("pub-tailwater/pub/beam/coder.ErrVarIntTooLong", laid_pub_tailwater_pub_beam_coder_ErrVarIntTooLong)], narrowed := true }
def FnReadNUptoSaid : Prop := fnReadNUptoRow.holds Tryd.pinned (OpenSpec.upto fnReadNSpec)

/-- 'laws.FnFieldNil', WHERE WHAT IT READS IS OF BULK AT MOST 1048576: true; the input reads as it did. -/
def fnFieldNilUptoRow : OpenClaim := { program := "ytgdbeiadlgkedaadoor", sum := "04e237962c52041f4d91c29c5ba22fcf327c01c1ca65476206efc1ec0a37a963", func := "pub-tailwater/laws.FnFieldNil", spec := "fnFieldNil", inPlace := ["math.Float64frombits", "math.Float64bits", "math.Float32frombits", "math.Float32bits", "internal/abi.NoEscape"], unfollowed := true, recurses := true, named := ["encoding/binary.BigEndian", "io.EOF", "pub-tailwater/pub/beam/coder.ErrVarIntTooLong"], apart := false, laid := [("io.EOF", laid_io_EOF), ("pub-tailwater/pub/beam/coder.ErrVarIntTooLong", laid_pub_tailwater_pub_beam_coder_ErrVarIntTooLong)], narrowed := true }
def FnFieldNilUptoSaid : Prop := fnFieldNilUptoRow.holds Tryd.pinned (OpenSpec.upto fnFieldNilSpec)

/-- 'laws.FnRowSimpleRead', WHERE WHAT IT READS IS OF BULK AT MOST 1048576: true; the input reads as it did. -/
def fnRowSimpleReadUptoRow : OpenClaim := { program := "ytgdbeiadlgkedaadoor", sum := "04e237962c52041f4d91c29c5ba22fcf327c01c1ca65476206efc1ec0a37a963", func := "pub-tailwater/laws.FnRowSimpleRead", spec := "fnRowSimpleRead", inPlace := ["math.Float64frombits", "math.Float64bits", "math.Float32frombits", "math.Float32bits", "internal/abi.NoEscape"], unfollowed := true, recurses := true, named := ["encoding/binary.BigEndian", "io.EOF", "pub-tailwater/pub/beam/coder.ErrVarIntTooLong"], apart := false, laid := [("io.EOF", laid_io_EOF), ("pub-tailwater/pub/beam/coder.ErrVarIntTooLong", laid_pub_tailwater_pub_beam_coder_ErrVarIntTooLong)], narrowed := true }
def FnRowSimpleReadUptoSaid : Prop := fnRowSimpleReadUptoRow.holds Tryd.pinned (OpenSpec.upto fnRowSimpleReadSpec)

/-- 'laws.FnRowRead', WHERE WHAT IT READS IS OF BULK AT MOST 1048576: true; the input reads as it did. -/
def fnRowReadUptoRow : OpenClaim := { program := "ytgdbeiadlgkedaadoor", sum := "04e237962c52041f4d91c29c5ba22fcf327c01c1ca65476206efc1ec0a37a963", func := "pub-tailwater/laws.FnRowRead", spec := "fnRowRead", inPlace := ["math.Float64frombits", "math.Float64bits", "math.Float32frombits", "math.Float32bits", "internal/abi.NoEscape"], unfollowed := true, recurses := true, named := ["encoding/binary.BigEndian", "io.EOF", "pub-tailwater/pub/beam/coder.ErrVarIntTooLong"], apart := false, laid := [("io.EOF", laid_io_EOF), ("pub-tailwater/pub/beam/coder.ErrVarIntTooLong", laid_pub_tailwater_pub_beam_coder_ErrVarIntTooLong)], narrowed := true }
def FnRowReadUptoSaid : Prop := fnRowReadUptoRow.holds Tryd.pinned (OpenSpec.upto fnRowReadSpec)

/-- 'laws.FnRowSimple', WHERE WHAT IT READS IS OF BULK AT MOST 1048576: true; the input reads as it did. -/
def fnRowSimpleUptoRow : OpenClaim := { program := "ytgdbeiadlgkedaadoor", sum := "04e237962c52041f4d91c29c5ba22fcf327c01c1ca65476206efc1ec0a37a963", func := "pub-tailwater/laws.FnRowSimple", spec := "fnRowSimple", inPlace := ["math.Float64frombits", "math.Float64bits", "math.Float32frombits", "math.Float32bits", "internal/abi.NoEscape"], unfollowed := true, recurses := true, named := ["encoding/binary.BigEndian", "io.EOF", "pub-tailwater/pub/beam/coder.ErrVarIntTooLong"], apart := false, laid := [("io.EOF", laid_io_EOF), ("pub-tailwater/pub/beam/coder.ErrVarIntTooLong", laid_pub_tailwater_pub_beam_coder_ErrVarIntTooLong)], narrowed := true }
def FnRowSimpleUptoSaid : Prop := fnRowSimpleUptoRow.holds Tryd.pinned (OpenSpec.upto fnRowSimpleSpec)

/-- 'laws.FnRowHeader', WHERE WHAT IT READS IS OF BULK AT MOST 1048576: true; the input reads as it did. -/
def fnRowHeaderUptoRow : OpenClaim := { program := "ytgdbeiadlgkedaadoor", sum := "04e237962c52041f4d91c29c5ba22fcf327c01c1ca65476206efc1ec0a37a963", func := "pub-tailwater/laws.FnRowHeader", spec := "fnRowHeader", inPlace := ["math.Float64frombits", "math.Float64bits", "math.Float32frombits", "math.Float32bits", "internal/abi.NoEscape"], unfollowed := true, recurses := true, named := ["encoding/binary.BigEndian", "io.EOF", "pub-tailwater/pub/beam/coder.ErrVarIntTooLong"], apart := false, laid := [("io.EOF", laid_io_EOF), ("pub-tailwater/pub/beam/coder.ErrVarIntTooLong", laid_pub_tailwater_pub_beam_coder_ErrVarIntTooLong)], narrowed := true }
def FnRowHeaderUptoSaid : Prop := fnRowHeaderUptoRow.holds Tryd.pinned (OpenSpec.upto fnRowHeaderSpec)

/-- 'laws.FnRowBack', WHERE WHAT IT READS IS OF BULK AT MOST 1048576: true; the input reads as it did. -/
def fnRowBackUptoRow : OpenClaim := { program := "ytgdbeiadlgkedaadoor", sum := "04e237962c52041f4d91c29c5ba22fcf327c01c1ca65476206efc1ec0a37a963", func := "pub-tailwater/laws.FnRowBack", spec := "fnRowBack", inPlace := ["math.Float64frombits", "math.Float64bits", "math.Float32frombits", "math.Float32bits", "internal/abi.NoEscape"], unfollowed := true, recurses := true, named := ["encoding/binary.BigEndian", "io.EOF", "pub-tailwater/pub/beam/coder.ErrVarIntTooLong"], apart := false, laid := [("io.EOF", laid_io_EOF), ("pub-tailwater/pub/beam/coder.ErrVarIntTooLong", laid_pub_tailwater_pub_beam_coder_ErrVarIntTooLong)], narrowed := true }
def FnRowBackUptoSaid : Prop := fnRowBackUptoRow.holds Tryd.pinned (OpenSpec.upto fnRowBackSpec)

end Rows
end Go.Proofs.YtgdbeiadlgkedaaDoor
