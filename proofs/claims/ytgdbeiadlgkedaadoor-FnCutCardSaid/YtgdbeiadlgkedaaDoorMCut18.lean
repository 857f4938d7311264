/- Contracts and plain laws, several texts in one. -/
import Derived.Test.YtgdbeiadlgkedaaDoorMCut1
import Derived.Deep.Slices
import Derived.RowKit
import Derived.ChangeArms
import Derived.Lib.SmallJoins
import Derived.ChangeSame
import Derived.Deep.Fields
set_option linter.unusedVariables false
set_option linter.unusedSimpArgs false
namespace Go.Proofs.YtgdbeiadlgkedaaDoor
open Go.Joins Go.ChangeShapes Go.WideShapes Go.RowKit Go.Deep
theorem read_val {H : Type} {enc : TypeId × Value → H} {W : World} {base : Nat} {sp : Nat → Bool} {held : Bool} {fuel : Nat} {cs : List Value} {x : DataW H × List MemPlace} (hl : cs.length = 11) (hx : DataW.trod enc Tryd.prog W base sp held fuel 26 cs = some x) :
    ∃ (a0 : Int) (a1 : Bool) (a2 : Int) (a3 : Int) (a4 : Int) (a5 : ByteArray) (a6 : Int) (a7 : Bool) (a8 : Bool) (a9 : Int) (a10 : Int), cs = [.int .i64 a0, .bool a1, .int .i64 a2, .int .u64 a3, .int .u64 a4, .string a5, .int .i64 a6, .bool a7, .bool a8, .int .i64 a9, .int .i64 a10] ∧ (Lit.int .i64 a0).wf = true ∧ (Lit.int .i64 a2).wf = true ∧ (Lit.int .u64 a3).wf = true ∧ (Lit.int .u64 a4).wf = true ∧ (Lit.int .i64 a6).wf = true ∧ (Lit.int .i64 a9).wf = true ∧ (Lit.int .i64 a10).wf = true := by
  match cs, hl with
  | [c0, c1, c2, c3, c4, c5, c6, c7, c8, c9, c10], _ =>
    obtain ⟨ys, n, _, rfl, _, hlen, hf⟩ := DataW.trod_struct Tryd.underlying26 hx
    have hlen' : ys.length = 7 := hlen
    match ys, hlen' with
    | [y0, y1, y2, y3, y4, y5, y6], _ =>
      have g0 := hf 0 _ rfl
      have g1 := hf 1 _ rfl
      have g2 := hf 2 _ rfl
      have g3 := hf 3 _ rfl
      have g4 := hf 4 _ rfl
      have g5 := hf 5 _ rfl
      have g6 := hf 6 _ rfl
      simp only [List.getElem_toArray, List.getElem_cons_zero, List.getElem_cons_succ, List.drop, List.take, List.getElem?_cons_zero, List.getElem?_cons_succ, show Tryd.prog.cellsOf 2 = 1 from by kernel_rfl, show Tryd.prog.cellsOf 4 = 1 from by kernel_rfl, show Tryd.prog.cellsOf 9 = 1 from by kernel_rfl, show Tryd.prog.cellsOf 22 = 1 from by kernel_rfl, show Tryd.prog.cellsOf 24 = 5 from by kernel_rfl] at g0 g1 g2 g3 g4 g5 g6
      obtain ⟨zs, n2, _, rfl, _, hlen2, hf2⟩ := DataW.trod_struct Tryd.underlying24 g6
      have hlen2' : zs.length = 5 := hlen2
      match zs, hlen2' with
      | [z0, z1, z2, z3, z4], _ =>
        have g60 := hf2 0 _ rfl
        have g7 := hf2 1 _ rfl
        have g8 := hf2 2 _ rfl
        have g9 := hf2 3 _ rfl
        have g10 := hf2 4 _ rfl
        simp only [List.getElem_toArray, List.getElem_cons_zero, List.getElem_cons_succ, List.drop, List.take, List.getElem?_cons_zero, List.getElem?_cons_succ, show Tryd.prog.cellsOf 2 = 1 from by kernel_rfl, show Tryd.prog.cellsOf 4 = 1 from by kernel_rfl, show Tryd.prog.cellsOf 9 = 1 from by kernel_rfl, show Tryd.prog.cellsOf 22 = 1 from by kernel_rfl, show Tryd.prog.cellsOf 24 = 5 from by kernel_rfl] at g60 g7 g8 g9 g10
        obtain ⟨a0, e0, _, w0⟩ := DataW.trod_int Tryd.underlying2 g0
        obtain ⟨a1, e1, _⟩ := DataW.trod_bool Tryd.underlying4 g1
        obtain ⟨a2, e2, _, w2⟩ := DataW.trod_int Tryd.underlying2 g2
        obtain ⟨a3, e3, _, w3⟩ := DataW.trod_int Tryd.underlying22 g3
        obtain ⟨a4, e4, _, w4⟩ := DataW.trod_int Tryd.underlying22 g4
        obtain ⟨a5, e5, _, _⟩ := DataW.trod_string Tryd.underlying9 g5
        obtain ⟨a6, e6, _, w6⟩ := DataW.trod_int Tryd.underlying2 g60
        obtain ⟨a7, e7, _⟩ := DataW.trod_bool Tryd.underlying4 g7
        obtain ⟨a8, e8, _⟩ := DataW.trod_bool Tryd.underlying4 g8
        obtain ⟨a9, e9, _, w9⟩ := DataW.trod_int Tryd.underlying2 g9
        obtain ⟨a10, e10, _, w10⟩ := DataW.trod_int Tryd.underlying2 g10
        simp only [List.cons.injEq, and_true] at e0 e1 e2 e3 e4 e5 e6 e7 e8 e9 e10
        subst e0 e1 e2 e3 e4 e5 e6 e7 e8 e9 e10
        exact ⟨a0, a1, a2, a3, a4, a5, a6, a7, a8, a9, a10, rfl, w0, w2, w3, w4, w6, w9, w10⟩
set_option maxRecDepth 100000 in
theorem open_val {H : Type} {enc : TypeId × Value → H} {w : World} {base : Nat} {spare : Nat → Bool} {held : Bool} {r : Reach} {b0 : Nat} {v : Value} {d : DataW H} {p : List MemPlace}
    (hv : Value.okWide Tryd.prog w r b0 26 v) (h : DataW.Trod enc Tryd.prog w base spare held 26 v d p) :
    ∃ (a0 : Int) (a1 : Bool) (a2 : Int) (a3 : Int) (a4 : Int) (a5 : ByteArray) (a6 : Int) (a7 : Bool) (a8 : Bool) (a9 : Int) (a10 : Int), v = .agg #[.int .i64 a0, .bool a1, .int .i64 a2, .int .u64 a3, .int .u64 a4, .string a5, .int .i64 a6, .bool a7, .bool a8, .int .i64 a9, .int .i64 a10] ∧ (Lit.int .i64 a0).wf = true ∧ (Lit.int .i64 a2).wf = true ∧ (Lit.int .u64 a3).wf = true ∧ (Lit.int .u64 a4).wf = true ∧ (Lit.int .i64 a6).wf = true ∧ (Lit.int .i64 a9).wf = true ∧ (Lit.int .i64 a10).wf = true := by
  obtain ⟨cells, rfl, hsz⟩ := okWide_struct Tryd.underlying26 hv
  obtain ⟨l⟩ := cells
  have hC : Tryd.prog.cellsOf 26 = 11 := by kernel_rfl
  have hlen0 : l.length = 11 := hsz.trans hC
  obtain ⟨fuel, hf⟩ := h
  obtain ⟨a0, a1, a2, a3, a4, a5, a6, a7, a8, a9, a10, e, hw⟩ := read_val hlen0 hf
  subst e
  exact ⟨a0, a1, a2, a3, a4, a5, a6, a7, a8, a9, a10, rfl, hw⟩
theorem i64_rng {a : Int} (h : (Lit.int .i64 a).wf = true) : -9223372036854775808 ≤ a ∧ a ≤ 9223372036854775807 := by
  have hmin : IntKind.i64.min = -9223372036854775808 := rfl
  have hmax : IntKind.i64.max = 9223372036854775807 := rfl
  simp only [Lit.wf, Bool.and_eq_true, decide_eq_true_eq] at h
  omega
theorem u64_rng {a : Int} (h : (Lit.int .u64 a).wf = true) : 0 ≤ a ∧ a < 18446744073709551616 := by
  have hmin : IntKind.u64.min = 0 := rfl
  have hmax : IntKind.u64.max = 18446744073709551615 := rfl
  simp only [Lit.wf, Bool.and_eq_true, decide_eq_true_eq] at h
  omega
end Go.Proofs.YtgdbeiadlgkedaaDoor
