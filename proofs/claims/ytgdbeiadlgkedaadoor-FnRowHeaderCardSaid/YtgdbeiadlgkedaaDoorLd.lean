/- What the listed variables hold gives the walks' word on errors; a start that fits. -/
import Derived.Test.YtgdbeiadlgkedaaDoorRows
import Derived.Test.YtgdbeiadlgkedaaDoorRv
import Derived.LaidMore
import Derived.Stop.LaidErr
import Derived.ProofKit
namespace Go.Proofs.YtgdbeiadlgkedaaDoor
open Go.ChangeShapes Go.WideShapes Go.ChangeAt Go.RowKit
set_option linter.unusedVariables false

abbrev laid2 : List (String × DataW Unit) := [("io.EOF", Rows.laid_io_EOF), ("pub-tailwater/pub/beam/coder.ErrVarIntTooLong", Rows.laid_pub_tailwater_pub_beam_coder_ErrVarIntTooLong)]
theorem gE : Tryd.prog.globalNamed "io.EOF" = some 0 := by kernel_rfl
theorem gET : (Tryd.prog.globals[0]?).map (·.type) = some 82 := by kernel_rfl
theorem gL : Tryd.prog.globalNamed "pub-tailwater/pub/beam/coder.ErrVarIntTooLong" = some 3 := by kernel_rfl
theorem gLT : (Tryd.prog.globals[3]?).map (·.type) = some 82 := by kernel_rfl
theorem cellsES : Tryd.prog.cellsOf 184 = 1 := by kernel_rfl
theorem cellsS : Tryd.prog.cellsOf 9 = 1 := by kernel_rfl
theorem star : "*" ++ "errors.errorString" = "*errors.errorString" := by decide
theorem rowES (u : TypeId) (h : Tryd.prog.typeName? 3 u = some "*errors.errorString") : u = 182 :=
  typeName_ptr_named (nm := "errors.errorString") (by rw [star]; kernel_rfl) (by kernel_rfl) (by decide) u (by rw [star]; exact h)
theorem env_of_laid {W : World} (h : laidMetH Tryd.prog laid2 W) : ∃ pe pl, Env W.heap.size pe pl W := by
  rw [MakeChecks.laidMetH_plain _ _ _ (by kernel_rfl)] at h
  obtain ⟨a0, s0, hv0, hc0, hs0, -⟩ := laid_sentinel h gE gET Tryd.underlying82 rowES Tryd.underlying182 Tryd.underlying184 rfl rfl Tryd.underlying9 cellsES cellsS
  obtain ⟨a1, s1, hv1, hc1, hs1, -⟩ := laid_sentinel h.tail gL gLT Tryd.underlying82 rowES Tryd.underlying182 Tryd.underlying184 rfl rfl Tryd.underlying9 cellsES cellsS
  have x0 : W.cell? ⟨0, 0, none⟩ = some (.iface 182 (.pointer (some a0))) := by have := World.var?_cell gE hv0 0; simpa using this
  have x1 : W.cell? ⟨3, 0, none⟩ = some (.iface 182 (.pointer (some a1))) := by have := World.var?_cell gL hv1 0; simpa using this
  exact ⟨a0, a1, { eof := x0, long := x1, te := ⟨s0, hc0, by rw [hs0]; decide⟩, tl := ⟨s1, hc1, by rw [hs1]; decide⟩, b0 := World.block_lt_of_cell? W _ x0, b1 := World.block_lt_of_cell? W _ x1, b2 := World.block_lt_of_cell? W _ hc0, b3 := World.block_lt_of_cell? W _ hc1 }⟩
/-- The heap that the door's own run leaves meets the condition. -/
theorem door_met (os : Os) (args : Array Value) : laidMetH Tryd.prog laid2 ((World.doorLaid Tryd.prog 400 os).forCall (fun _ _ => 0) ⟨#[], args, []⟩).memory :=
  laidMetH_of_parts3 (fuel := 8) (laidMet_of_run' 8 (by kernel_rfl) (by kernel_rfl)) (by kernel_rfl) (by kernel_rfl)
theorem own : ownKnob Tryd.prog.godebug = none := by kernel_rfl
theorem laidOut : laidOutB Tryd.prog = true := by kernel_rfl
end Go.Proofs.YtgdbeiadlgkedaaDoor
