/- Opening a slice of numbers. -/
import Derived.Test.YtoigekmdicepnaaSo
set_option linter.unusedVariables false
set_option linter.unusedSimpArgs false
namespace Go.Proofs.Ytoigekmdicepnaa
open Go.RowKit Go.Deep Go.Proofs.YtoigekmdicepnaaW.PrintWords
theorem open_ints {H : Type} {enc : TypeId × Value → H} {W : World} {sp : Nat → Bool} {held : Bool} {A0 : Option Addr} {n0 c0 : Nat} {ds : DataW H} {ps : List MemPlace} (h : DataW.Trod enc Try.prog W 0 sp held 33 (.slice A0 n0 c0) ds ps) :
    ∃ xs : List Int, n0 = xs.length ∧ xs.length ≤ c0 ∧ (Kd.int .i64).C W A0 xs.length xs := by
  obtain ⟨xs, e, hc, hC, _⟩ := open_kd (Good := fun _ => True) (Kd.int .i64) Try.underlying33 (by kernel_rfl) (fun n cs x hl hx => by
    obtain ⟨u, e, _⟩ := DataW.trod_int Try.underlying2 hx
    exact ⟨u, e, trivial⟩) h
  exact ⟨xs, e, hc, hC⟩
end Go.Proofs.Ytoigekmdicepnaa
