/-
  NARROWER THAN 'FOR EVERY INPUT', by the rows' own cells (each row's printed sentence says how): FnTrigBack: loops.
  DERIVED. THE GIVEN ROWS OF THIS SEAT. 8 by the template 'for every input the law returns true; each argument reads behind the call as it read before'; 0 by the template 'total and deterministic' (their statements: YtoigekmdicepnaaTotals.lean).
  GIVEN WITH THE SEED: the statements are not yours to turn. If you find one false, say at which input.
  Laid BY PROGRAM, IN A SANDBOX (cutbox-rows.mjs): the forced cells as the released guide's own fill.sh prints them over the translation 45d54ea2b879c44c… (all of the seat's roots in one cut). By AI agents, Wed Nov 11 2026. No macro, syntax, notation, axiom, sorry.
-/
import Derived.Test.YtoigekmdicepnaaChecked
import GoSem.Claim
import GoSem.ClaimJoined
import GoSem.ClaimMapViews
import Derived.JoinedTies
import Derived.KernelRfl
namespace Go.Proofs.Ytoigekmdicepnaa
/- THE CELL 'sum', in the pinned program and in every row, IS THE sha256 OF THE DUMP (.gsa) THAT YtoigekmdicepnaaProg.lean LOADS. Nothing in Lean hashes anything: it is a label: what it is worth is what the hold of that sum in a sandbox is worth. -/
noncomputable def Try.pinned : Pinned := { name := "ytoigekmdicepnaa", sum := "45d54ea2b879c44c657480516eadcdceae517ce69bce149d1d5b171f86bb4738", checked := Try.checked }
namespace Rows
def none {H : Type} : Left H := { results := [], args := [] }

/-- 'laws.FnValueState': WHATEVER THE INPUT: true; the input reads as it did. -/
def fnValueStateSpec : ChangeSpec := { name := "fnValueState", fn := fun _ => fun
  | [d1, d2, d3] => { results := [.lit (.bool true)], args := [d1, d2, d3] }
  | _ => none }
def fnValueStateRow : OpenClaim := { program := "ytoigekmdicepnaa", sum := "45d54ea2b879c44c657480516eadcdceae517ce69bce149d1d5b171f86bb4738", func := "pub-tailwater/laws.FnValueState", spec := "fnValueState", unfollowed := true, recurses := true, apart := false }
def FnValueStateSaid : Prop := fnValueStateRow.holds Try.pinned (OpenSpec.ofChange fnValueStateSpec)

/-- ITS FALSE NEIGHBOUR: 'it returns false'. Refute it at one input. -/
def fnValueStateWrong : ChangeSpec := { name := "fnValueState", fn := fun _ => fun
  | [d1, d2, d3] => { results := [.lit (.bool false)], args := [d1, d2, d3] }
  | _ => none }
def FnValueStateWrongFalsely : Prop := fnValueStateRow.holds Try.pinned (OpenSpec.ofChange fnValueStateWrong)

/-- 'laws.FnTimerRun': WHATEVER THE INPUT: true; the input reads as it did. -/
def fnTimerRunSpec : ChangeSpec := { name := "fnTimerRun", fn := fun _ => fun
  | [d] => { results := [.lit (.bool true)], args := [d] }
  | _ => none }
def fnTimerRunRow : OpenClaim := { program := "ytoigekmdicepnaa", sum := "45d54ea2b879c44c657480516eadcdceae517ce69bce149d1d5b171f86bb4738", func := "pub-tailwater/laws.FnTimerRun", spec := "fnTimerRun", unfollowed := true, recurses := true, apart := false }
def FnTimerRunSaid : Prop := fnTimerRunRow.holds Try.pinned (OpenSpec.ofChange fnTimerRunSpec)

/-- ITS FALSE NEIGHBOUR: 'it returns false'. Refute it at one input. -/
def fnTimerRunWrong : ChangeSpec := { name := "fnTimerRun", fn := fun _ => fun
  | [d] => { results := [.lit (.bool false)], args := [d] }
  | _ => none }
def FnTimerRunWrongFalsely : Prop := fnTimerRunRow.holds Try.pinned (OpenSpec.ofChange fnTimerRunWrong)

/-- 'laws.FnTimerDomain': WHATEVER THE INPUT: true; the input reads as it did. -/
def fnTimerDomainSpec : ChangeSpec := { name := "fnTimerDomain", fn := fun _ => fun
  | [d] => { results := [.lit (.bool true)], args := [d] }
  | _ => none }
def fnTimerDomainRow : OpenClaim := { program := "ytoigekmdicepnaa", sum := "45d54ea2b879c44c657480516eadcdceae517ce69bce149d1d5b171f86bb4738", func := "pub-tailwater/laws.FnTimerDomain", spec := "fnTimerDomain", unfollowed := true, recurses := true, apart := false }
def FnTimerDomainSaid : Prop := fnTimerDomainRow.holds Try.pinned (OpenSpec.ofChange fnTimerDomainSpec)

/-- ITS FALSE NEIGHBOUR: 'it returns false'. Refute it at one input. -/
def fnTimerDomainWrong : ChangeSpec := { name := "fnTimerDomain", fn := fun _ => fun
  | [d] => { results := [.lit (.bool false)], args := [d] }
  | _ => none }
def FnTimerDomainWrongFalsely : Prop := fnTimerDomainRow.holds Try.pinned (OpenSpec.ofChange fnTimerDomainWrong)

/-- 'laws.FnBagState': WHATEVER THE INPUT: true; the input reads as it did. -/
def fnBagStateSpec : ChangeSpec := { name := "fnBagState", fn := fun _ => fun
  | [d1, d2] => { results := [.lit (.bool true)], args := [d1, d2] }
  | _ => none }
def fnBagStateRow : OpenClaim := { program := "ytoigekmdicepnaa", sum := "45d54ea2b879c44c657480516eadcdceae517ce69bce149d1d5b171f86bb4738", func := "pub-tailwater/laws.FnBagState", spec := "fnBagState", unfollowed := true, recurses := true, apart := false }
def FnBagStateSaid : Prop := fnBagStateRow.holds Try.pinned (OpenSpec.ofChange fnBagStateSpec)

/-- ITS FALSE NEIGHBOUR: 'it returns false'. Refute it at one input. -/
def fnBagStateWrong : ChangeSpec := { name := "fnBagState", fn := fun _ => fun
  | [d1, d2] => { results := [.lit (.bool false)], args := [d1, d2] }
  | _ => none }
def FnBagStateWrongFalsely : Prop := fnBagStateRow.holds Try.pinned (OpenSpec.ofChange fnBagStateWrong)

/-- 'laws.FnListState': WHATEVER THE INPUT: true; the input reads as it did. -/
def fnListStateSpec : ChangeSpec := { name := "fnListState", fn := fun _ => fun
  | [d1, d2] => { results := [.lit (.bool true)], args := [d1, d2] }
  | _ => none }
def fnListStateRow : OpenClaim := { program := "ytoigekmdicepnaa", sum := "45d54ea2b879c44c657480516eadcdceae517ce69bce149d1d5b171f86bb4738", func := "pub-tailwater/laws.FnListState", spec := "fnListState", unfollowed := true, recurses := true, apart := false }
def FnListStateSaid : Prop := fnListStateRow.holds Try.pinned (OpenSpec.ofChange fnListStateSpec)

/-- ITS FALSE NEIGHBOUR: 'it returns false'. Refute it at one input. -/
def fnListStateWrong : ChangeSpec := { name := "fnListState", fn := fun _ => fun
  | [d1, d2] => { results := [.lit (.bool false)], args := [d1, d2] }
  | _ => none }
def FnListStateWrongFalsely : Prop := fnListStateRow.holds Try.pinned (OpenSpec.ofChange fnListStateWrong)

/-- 'laws.FnSetState': WHATEVER THE INPUT: true; the input reads as it did. -/
def fnSetStateSpec : ChangeSpec := { name := "fnSetState", fn := fun _ => fun
  | [d1, d2] => { results := [.lit (.bool true)], args := [d1, d2] }
  | _ => none }
def fnSetStateRow : OpenClaim := { program := "ytoigekmdicepnaa", sum := "45d54ea2b879c44c657480516eadcdceae517ce69bce149d1d5b171f86bb4738", func := "pub-tailwater/laws.FnSetState", spec := "fnSetState", unfollowed := true, recurses := true, apart := false }
def FnSetStateSaid : Prop := fnSetStateRow.holds Try.pinned (OpenSpec.ofChange fnSetStateSpec)

/-- ITS FALSE NEIGHBOUR: 'it returns false'. Refute it at one input. -/
def fnSetStateWrong : ChangeSpec := { name := "fnSetState", fn := fun _ => fun
  | [d1, d2] => { results := [.lit (.bool false)], args := [d1, d2] }
  | _ => none }
def FnSetStateWrongFalsely : Prop := fnSetStateRow.holds Try.pinned (OpenSpec.ofChange fnSetStateWrong)

/-- 'laws.FnMapState': WHATEVER THE INPUT: true; the input reads as it did. -/
def fnMapStateSpec : ChangeSpec := { name := "fnMapState", fn := fun _ => fun
  | [d1, d2] => { results := [.lit (.bool true)], args := [d1, d2] }
  | _ => none }
def fnMapStateRow : OpenClaim := { program := "ytoigekmdicepnaa", sum := "45d54ea2b879c44c657480516eadcdceae517ce69bce149d1d5b171f86bb4738", func := "pub-tailwater/laws.FnMapState", spec := "fnMapState", unfollowed := true, recurses := true, apart := false }
def FnMapStateSaid : Prop := fnMapStateRow.holds Try.pinned (OpenSpec.ofChange fnMapStateSpec)

/-- ITS FALSE NEIGHBOUR: 'it returns false'. Refute it at one input. -/
def fnMapStateWrong : ChangeSpec := { name := "fnMapState", fn := fun _ => fun
  | [d1, d2] => { results := [.lit (.bool false)], args := [d1, d2] }
  | _ => none }
def FnMapStateWrongFalsely : Prop := fnMapStateRow.holds Try.pinned (OpenSpec.ofChange fnMapStateWrong)

/-- 'laws.FnTrigBack': WHATEVER THE INPUT: true; the input reads as it did. -/
def fnTrigBackSpec : ChangeSpec := { name := "fnTrigBack", fn := fun _ => fun
  | [d] => { results := [.lit (.bool true)], args := [d] }
  | _ => none }
def fnTrigBackRow : OpenClaim := { program := "ytoigekmdicepnaa", sum := "45d54ea2b879c44c657480516eadcdceae517ce69bce149d1d5b171f86bb4738", func := "pub-tailwater/laws.FnTrigBack", spec := "fnTrigBack", recurses := true, loops := true, apart := false }
def FnTrigBackSaid : Prop := fnTrigBackRow.holds Try.pinned (OpenSpec.ofChange fnTrigBackSpec)

/-- ITS FALSE NEIGHBOUR: 'it returns false'. Refute it at one input. -/
def fnTrigBackWrong : ChangeSpec := { name := "fnTrigBack", fn := fun _ => fun
  | [d] => { results := [.lit (.bool false)], args := [d] }
  | _ => none }
def FnTrigBackWrongFalsely : Prop := fnTrigBackRow.holds Try.pinned (OpenSpec.ofChange fnTrigBackWrong)

/- THE SECOND FORM. 'bulk': how many values and letters a reading holds, each counted each time it is reached (what is shared counts as often as it is met; a slice's spare places count too). A statement '..UptoSaid' is the law's where the arguments, and the package variables that the reading takes, are together of bulk at most 1048576: NARROWER than '..Said'. Prove '..Said' where nothing that the law and all that it calls make is longer than what came in: it says more and counts as full. Else prove '..UptoSaid'. A law counts once. -/
mutual
def uptoBulk {H : Type} : DataW H → Nat
  | .lit (.string bytes) => bytes.length + 1
  | .lit _ => 1
  | .nil => 1
  | .ptr d => uptoBulk d + 1
  | .slice elems spare => uptoBulkAll elems + uptoBulkAll spare + 1
  | .agg parts => uptoBulkAll parts + 1
  | .iface _ d => uptoBulk d + 1
  | .map entries => uptoBulkEntries entries + 1
  | .held _ => 1
def uptoBulkAll {H : Type} : List (DataW H) → Nat
  | [] => 0
  | d :: r => uptoBulk d + uptoBulkAll r
def uptoBulkEntries {H : Type} : List (Lit × DataW H) → Nat
  | [] => 0
  | x :: r => uptoBulkEntry x + uptoBulkEntries r
def uptoBulkEntry {H : Type} : Lit × DataW H → Nat
  | (.string bytes, d) => bytes.length + uptoBulk d + 1
  | (_, d) => uptoBulk d + 1
 end
def uptoSmall : (H : Type) → List (DataW H) → Bool := fun _ ds => decide (uptoBulkAll ds ≤ 1048576)
def OpenSpec.upto (s : _root_.Go.ChangeSpec) : _root_.Go.OpenSpec := { _root_.Go.OpenSpec.ofChange s with cond := some uptoSmall }

/-- 'laws.FnValueState', WHERE WHAT IT READS IS OF BULK AT MOST 1048576: true; the input reads as it did. -/
def fnValueStateUptoRow : OpenClaim := { program := "ytoigekmdicepnaa", sum := "45d54ea2b879c44c657480516eadcdceae517ce69bce149d1d5b171f86bb4738", func := "pub-tailwater/laws.FnValueState", spec := "fnValueState", unfollowed := true, recurses := true, apart := false, narrowed := true }
def FnValueStateUptoSaid : Prop := fnValueStateUptoRow.holds Try.pinned (OpenSpec.upto fnValueStateSpec)

/-- 'laws.FnTimerRun', WHERE WHAT IT READS IS OF BULK AT MOST 1048576: true; the input reads as it did. -/
def fnTimerRunUptoRow : OpenClaim := { program := "ytoigekmdicepnaa", sum := "45d54ea2b879c44c657480516eadcdceae517ce69bce149d1d5b171f86bb4738", func := "pub-tailwater/laws.FnTimerRun", spec := "fnTimerRun", unfollowed := true, recurses := true, apart := false, narrowed := true }
def FnTimerRunUptoSaid : Prop := fnTimerRunUptoRow.holds Try.pinned (OpenSpec.upto fnTimerRunSpec)

/-- 'laws.FnTimerDomain', WHERE WHAT IT READS IS OF BULK AT MOST 1048576: true; the input reads as it did. -/
def fnTimerDomainUptoRow : OpenClaim := { program := "ytoigekmdicepnaa", sum := "45d54ea2b879c44c657480516eadcdceae517ce69bce149d1d5b171f86bb4738", func := "pub-tailwater/laws.FnTimerDomain", spec := "fnTimerDomain", unfollowed := true, recurses := true, apart := false, narrowed := true }
def FnTimerDomainUptoSaid : Prop := fnTimerDomainUptoRow.holds Try.pinned (OpenSpec.upto fnTimerDomainSpec)

/-- 'laws.FnBagState', WHERE WHAT IT READS IS OF BULK AT MOST 1048576: true; the input reads as it did. -/
def fnBagStateUptoRow : OpenClaim := { program := "ytoigekmdicepnaa", sum := "45d54ea2b879c44c657480516eadcdceae517ce69bce149d1d5b171f86bb4738", func := "pub-tailwater/laws.FnBagState", spec := "fnBagState", unfollowed := true, recurses := true, apart := false, narrowed := true }
def FnBagStateUptoSaid : Prop := fnBagStateUptoRow.holds Try.pinned (OpenSpec.upto fnBagStateSpec)

/-- 'laws.FnListState', WHERE WHAT IT READS IS OF BULK AT MOST 1048576: true; the input reads as it did. -/
def fnListStateUptoRow : OpenClaim := { program := "ytoigekmdicepnaa", sum := "45d54ea2b879c44c657480516eadcdceae517ce69bce149d1d5b171f86bb4738", func := "pub-tailwater/laws.FnListState", spec := "fnListState", unfollowed := true, recurses := true, apart := false, narrowed := true }
def FnListStateUptoSaid : Prop := fnListStateUptoRow.holds Try.pinned (OpenSpec.upto fnListStateSpec)

/-- 'laws.FnSetState', WHERE WHAT IT READS IS OF BULK AT MOST 1048576: true; the input reads as it did. -/
def fnSetStateUptoRow : OpenClaim := { program := "ytoigekmdicepnaa", sum := "45d54ea2b879c44c657480516eadcdceae517ce69bce149d1d5b171f86bb4738", func := "pub-tailwater/laws.FnSetState", spec := "fnSetState", unfollowed := true, recurses := true, apart := false, narrowed := true }
def FnSetStateUptoSaid : Prop := fnSetStateUptoRow.holds Try.pinned (OpenSpec.upto fnSetStateSpec)

/-- 'laws.FnMapState', WHERE WHAT IT READS IS OF BULK AT MOST 1048576: true; the input reads as it did. -/
def fnMapStateUptoRow : OpenClaim := { program := "ytoigekmdicepnaa", sum := "45d54ea2b879c44c657480516eadcdceae517ce69bce149d1d5b171f86bb4738", func := "pub-tailwater/laws.FnMapState", spec := "fnMapState", unfollowed := true, recurses := true, apart := false, narrowed := true }
def FnMapStateUptoSaid : Prop := fnMapStateUptoRow.holds Try.pinned (OpenSpec.upto fnMapStateSpec)

/-- 'laws.FnTrigBack', WHERE WHAT IT READS IS OF BULK AT MOST 1048576: true; the input reads as it did. -/
def fnTrigBackUptoRow : OpenClaim := { program := "ytoigekmdicepnaa", sum := "45d54ea2b879c44c657480516eadcdceae517ce69bce149d1d5b171f86bb4738", func := "pub-tailwater/laws.FnTrigBack", spec := "fnTrigBack", recurses := true, loops := true, apart := false, narrowed := true }
def FnTrigBackUptoSaid : Prop := fnTrigBackUptoRow.holds Try.pinned (OpenSpec.upto fnTrigBackSpec)

end Rows
end Go.Proofs.Ytoigekmdicepnaa
