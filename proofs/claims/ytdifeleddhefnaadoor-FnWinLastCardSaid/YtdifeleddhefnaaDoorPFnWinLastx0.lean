-- PRINTED BY print.sh 35421559b90ae4d0a3588c463048766b98c2df88dd9212a6774a882060cdf62d: not written by this session
import Derived.Test.YtdifeleddhefnaaDoorProg
import Derived.Below
import Derived.Deep.Draws
import Derived.Deep.AppendLies
import Derived.Maps.AppendAt
import Derived.OwnWalk
import Derived.Laws.BytesArg
import Derived.Laws.MakeOwn
import Derived.Laws.OwnMore
import Derived.Deep.OwnRows
import Derived.Tactics
import Derived.Lib.ConvBytes
import Derived.Laws.Slices
import Derived.WalkKit
import Derived.KernelRfl
import Derived.RowKit3
import Derived.Deep.LoopGhost
import Derived.Deep.QuietTactic
import Derived.BigQuiet
import Derived.WideLaws
import Derived.Deep.DeepCutAuto
import Derived.Deep.CutBlock
import Derived.Deep.RegionHeld3
import Derived.Laws.Rows
import Derived.Lib.AppendStr
import Derived.ArgAppend
import Derived.Laws.IdiomCopy
import Derived.OrdersHeld
import Derived.Laws.BitsLemmas
import Derived.RowKit
import Derived.Test.YtdifeleddhefnaaDoorWWords
import Derived.Test.YtdifeleddhefnaaDoorWLast
import Derived.Test.YtdifeleddhefnaaDoorWTab
import Derived.Test.YtdifeleddhefnaaDoorWFour
import Derived.Test.YtdifeleddhefnaaDoorWQPut
import Derived.Test.YtdifeleddhefnaaDoorWApart
import Derived.Test.YtdifeleddhefnaaDoorWArr
import Derived.Test.YtdifeleddhefnaaDoorWZeros
import Derived.Test.YtdifeleddhefnaaDoorWFoot
import Derived.Test.YtdifeleddhefnaaDoorWKept
import Derived.Test.YtdifeleddhefnaaDoorWShare
import Derived.Test.YtdifeleddhefnaaDoorWN
import Derived.Test.YtdifeleddhefnaaDoorWFootNe
import Derived.Test.YtdifeleddhefnaaDoorWAt
import Derived.Test.YtdifeleddhefnaaDoorWEqStruct
import Derived.Test.YtdifeleddhefnaaDoorWRepsOne
import Derived.Test.YtdifeleddhefnaaDoorWInv
import Derived.Test.YtdifeleddhefnaaDoorWInvWords
import Derived.Test.YtdifeleddhefnaaDoorWGuard
import Derived.Test.YtdifeleddhefnaaDoorWNEv
import Derived.Test.YtdifeleddhefnaaDoorWMore
namespace Go.Proofs.YtdifeleddhefnaaDoor.PFnWinLast
open Go.RowKit Go.Proofs.YtdifeleddhefnaaDoorW.PrintWords Go.Proofs.YtdifeleddhefnaaDoorW.PrintLast Go.Proofs.YtdifeleddhefnaaDoorW.PrintMore
attribute [local go_sem] max2_int min2_int max_two min_two max_three min_three max_four min_four   -- for this text's walks alone
set_option linter.unusedVariables false
set_option linter.unusedSimpArgs false



def errW : Option Int → Value
  | none => .nilIface
  | some c => .iface 0 (.int .i64 c)
theorem errW_none : errW none = .nilIface := rfl
theorem errW_some (c : Int) : errW (some c) = .iface 0 (.int .i64 c) := rfl

theorem info5 : (Tryd.prog.info? 5).map (fun i => (i.zero, i.size, i.bytes)) = some (some (.int .u8 0), 1, 1) := by kernel_rfl
-- the values' own types

end Go.Proofs.YtdifeleddhefnaaDoor.PFnWinLast
