/- Opening a slice of entries. -/
import Derived.Test.YtoigekmdicepnaaSo
import Derived.Test.YtoigekmdicepnaaUa
set_option linter.unusedVariables false
set_option linter.unusedSimpArgs false
namespace Go.Proofs.Ytoigekmdicepnaa
open Go.RowKit Go.Deep Go.Proofs.YtoigekmdicepnaaW.PrintWords
open Go.Proofs.Ytoigekmdicepnaa.Ord (E2)
theorem list2 {α : Type} {l : List α} (h : l.length = 2) : ∃ a0 a1, l = [a0, a1] := by
  match l, h with
  | [a0, a1], _ => exact ⟨a0, a1, rfl⟩
theorem read_entries {H : Type} {enc : TypeId × Value → H} {W : World} {sp : Nat → Bool} {held : Bool} {n : Nat} {cs : List Value} {x : DataW H × List MemPlace} (hl : cs.length = 2) (hx : DataW.trod enc Try.prog W 0 sp held n 58 cs = some x) : ∃ (u0 : Int) (u1 : Int), cs = ([.int .i64 u0, .int .i64 u1]) := by
  obtain ⟨ys, m, _, rfl, _, hlen, hf⟩ := DataW.trod_struct Try.underlying58 hx
  have hlen' : ys.length = 2 := hlen
  obtain ⟨v0, v1, rfl⟩ := list2 hl
  obtain ⟨y0, y1, rfl⟩ := list2 hlen'
  have g0 := hf 0 _ rfl
  have g1 := hf 1 _ rfl
  simp only [List.getElem_toArray, List.getElem_cons_zero, List.getElem_cons_succ, show Try.prog.cellsOf 2 = 1 from by kernel_rfl, List.drop, List.take, List.getElem?_cons_zero, List.getElem?_cons_succ] at g0 g1
  obtain ⟨u0, e0, _, _⟩ := DataW.trod_int Try.underlying2 g0
  obtain ⟨u1, e1, _, _⟩ := DataW.trod_int Try.underlying2 g1
  simp only [List.cons.injEq, and_true] at e0 e1
  subst e0 e1
  exact ⟨u0, u1, rfl⟩
theorem open_entries {H : Type} {enc : TypeId × Value → H} {W : World} {sp : Nat → Bool} {held : Bool} {A0 : Option Addr} {n0 c0 : Nat} {ds : DataW H} {ps : List MemPlace} (h : DataW.Trod enc Try.prog W 0 sp held 54 (.slice A0 n0 c0) ds ps) :
    ∃ xs : List E2, n0 = xs.length ∧ xs.length ≤ c0 ∧ Kd.C kOl W A0 xs.length xs := by
  obtain ⟨xs, e, hc, hC, _⟩ := open_kd (Good := fun _ => True) kOl Try.underlying54 (by kernel_rfl) (fun n cs x hl hx => by
    obtain ⟨u0, u1, rfl⟩ := read_entries hl hx
    exact ⟨(u0, u1), ⟨[.int .i64 u0], [.int .i64 u1], rfl, rfl, rfl⟩, trivial⟩) h
  exact ⟨xs, e, hc, hC⟩
end Go.Proofs.Ytoigekmdicepnaa
