/- What the listed tables hold; a start that fits. -/
import Derived.Test.YtdifeleddhefnaaDoorRows
import Derived.Test.YtdifeleddhefnaaDoorTs
import Derived.LaidMore
import Derived.Stop.LaidErr
import Derived.ProofKit
namespace Go.Proofs.YtdifeleddhefnaaDoor
open Go.ChangeShapes Go.WideShapes Go.ChangeAt Go.RowKit
set_option linter.unusedVariables false

abbrev laid2 : List (String × DataW Unit) := [("math/bits.deBruijn32tab", Rows.laid_math_bits_deBruijn32tab), ("math/bits.deBruijn64tab", Rows.laid_math_bits_deBruijn64tab), ("internal/strconv.uint64pow10", Rows.laid_internal_strconv_uint64pow10)]
theorem gPT : (Tryd.prog.globals[0]?).map (·.type) = some 81 := by kernel_rfl
theorem tab_of_laid {W : World} (h : laidMetH Tryd.prog laid2 W) : Tab W := by
  rw [MakeChecks.laidMetH_plain _ _ _ (by kernel_rfl)] at h
  exact Lib.tabIs_of_head gP gPT Tryd.underlying81 Tryd.underlying65 (by kernel_rfl) (by kernel_rfl) h.tail.tail
/-- The heap that the door's own run leaves meets the condition. -/
theorem door_met (os : Os) (args : Array Value) : laidMetH Tryd.prog laid2 ((World.doorLaid Tryd.prog 400 os).forCall (fun _ _ => 0) ⟨#[], args, []⟩).memory :=
  laidMetH_of_parts3 (fuel := 8) (laidMet_of_run' 8 (by kernel_rfl) (by kernel_rfl)) (by kernel_rfl) (by kernel_rfl)
theorem own : ownKnob Tryd.prog.godebug = none := by kernel_rfl
theorem laidOut : laidOutB Tryd.prog = true := by kernel_rfl
end Go.Proofs.YtdifeleddhefnaaDoor
