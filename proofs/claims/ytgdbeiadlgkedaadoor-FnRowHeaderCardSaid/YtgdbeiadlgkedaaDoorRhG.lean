/- Contract: the closure that tells whether a field is nil. -/
import Derived.Test.YtgdbeiadlgkedaaDoorRhF
set_option linter.unusedVariables false
set_option linter.unusedSimpArgs false
namespace Go.Proofs.YtgdbeiadlgkedaaDoor
open Go.RowKit Go.Proofs.YtgdbeiadlgkedaaDoorW.PrintWords Go.Proofs.YtgdbeiadlgkedaaDoorW.PrintLast Go.Proofs.YtgdbeiadlgkedaaDoorW.PrintMore
theorem atB {w : World} {A : Option Addr} {l : List Bool} (h : Kd.C Kd.bool w A l.length l) (i : Nat) (h1 : i < l.length) : ∃ ad, A = some ad ∧ w.cell? (ad.add i) = some (.bool (isN l i)) := by
  obtain ⟨ad, c, e, _, hK, hc0⟩ := Kd.C_get h false (i : Int) (by omega) (by omega)
  have hc : ∀ j u, c[j]? = some u → w.cell? (ad.add (i * 1 + j)) = some u := hc0
  obtain rfl : c = [.bool (isN l i)] := hK
  exact ⟨ad, e, by have := hc 0 _ rfl; simpa using this⟩
theorem nil_any (g : Nat) (A : Option Addr) (c : Nat) (l : List Bool) (i : Nat) (w : World) (hg : w.heap[g]? = some (.cells #[.slice A l.length c] 75 (0, 0))) (hC : Kd.C Kd.bool w A l.length l) (hl : l.length ≤ 200) :
    Calls Tryd.prog 93 #[.int .i64 i, .pointer (some ⟨g, 0, none⟩)] w fun e w' => e = .returned (.bool (isN l i)) ∧ w = w' := by
  have x0 := (blk_cell hg 0).trans (rfl : _ = some (Value.slice A l.length c))
  have q1 : (l.length : Int) ≤ 200 := by omega
  clear hg
  by_cases h : i < l.length
  · obtain ⟨ad, rfl, y0⟩ := atB hC i h
    have HC := Lib.hid hC
    clear hC hl
    go_enter Tryd.func93, Tryd.ntmps93
    go_wp2
    go_ret
    exact ⟨rfl, rfl⟩
  · have HN := Lib.hid (isN_out (l := l) (i := i) (by omega))
    clear hC hl
    rw [HN.out]
    go_enter Tryd.func93, Tryd.ntmps93
    go_wp2
    go_ret
    exact ⟨rfl, rfl⟩
end Go.Proofs.YtgdbeiadlgkedaaDoor
