/- 'codAwake' answers true. -/
import Derived.Test.YtgdbeiadlgkedaaDoorDv11
namespace Go.Proofs.YtgdbeiadlgkedaaDoor
open Go.RowKit
set_option linter.unusedVariables false
set_option linter.unusedSimpArgs false

theorem uv300 : Lib.uvarint (u64of 300) = [172, 2] := by
  rw [show u64of 300 = 300 by decide, Lib.uvarint_big (by decide), Lib.uvarint_small (by decide)]; rfl
theorem vrd300 : vrd 0 0 (ByteArray.mk #[172, 2, 120]).data.toList = some (300, 2) := by decide
set_option maxHeartbeats 4000000 in
set_option maxRecDepth 100000 in
theorem awake_any (B : Nat) (pe pl : Addr) (w : World) (he : Env B pe pl w) (hB : B ≤ w.heap.size) :
    Calls Tryd.prog 21 #[] w fun e w' => e = .returned (.bool true) ∧ Below w.heap.size w w' := by
  have HC := Lib.hid (encVal_11 false 300 0 0 ⟨#[]⟩ 0 false false 0 0 w)
  have HV := Lib.hid uv300
  have HE := Lib.hid (And.intro he hB)
  clear he hB
  have HW : Hid (wrap64 ((300 : Nat) : Int) = 300) := Lib.hid (by unfold wrap64; omega)
  go_enter Tryd.func21, Tryd.ntmps21
  go_wp2_with (first
    | (go_at_call 27; go_loud (refine HC.out.mono ?_; rintro e_ w1 ⟨rfl, hb1⟩; rw [HV.out]; have HB := Lib.hid hb1; clear hb1))
    | (go_at_call 20; go_loud (refine (decVal_11_ok B pe pl ⟨#[172, 2, 120]⟩ w1 (by decide) (HE.out.1.below (HB.out.mono HE.out.2)) (Nat.le_trans HE.out.2 HB.out.size) 300 2 vrd300).mono ?_; rintro e_ w2 ⟨rfl, hb2⟩; rw [HW.out]; have HB2 := Lib.hid (HB.out.trans (hb2.mono HB.out.size)); clear hb2)))
  go_ret
  exact ⟨rfl, HB2.out.alloc HB2.out.size _⟩
end Go.Proofs.YtgdbeiadlgkedaaDoor
