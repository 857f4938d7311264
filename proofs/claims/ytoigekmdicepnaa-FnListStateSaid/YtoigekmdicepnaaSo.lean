/- Opening an argument that is a slice: its elements as a list, read by a kind. -/
import Derived.Test.YtoigekmdicepnaaPFnMapStatex0
import Derived.Deep.Slices
import Derived.Deep.Strs
import Derived.RowKit
import Derived.ChangeArms
set_option linter.unusedVariables false
set_option linter.unusedSimpArgs false
namespace Go.Proofs.Ytoigekmdicepnaa
open Go.RowKit Go.Deep Go.Proofs.YtoigekmdicepnaaW.PrintWords

theorem choose_list {α : Type} {n : Nat} {p : Nat → α → Prop} (h : ∀ i, i < n → ∃ x, p i x) : ∃ xs : List α, xs.length = n ∧ ∀ i x, xs[i]? = some x → p i x := by
  induction n with
  | zero => exact ⟨[], rfl, by simp⟩
  | succ n ih =>
    obtain ⟨xs, hl, hx⟩ := ih (fun i hi => h i (by omega))
    obtain ⟨y, hy⟩ := h n (by omega)
    refine ⟨xs ++ [y], by simp [hl], fun i x hi => ?_⟩
    by_cases hlt : i < xs.length
    · rw [List.getElem?_append_left hlt] at hi; exact hx i x hi
    · rw [List.getElem?_append_right (by omega)] at hi
      have e : i = n := by
        have := (List.getElem?_eq_some_iff.1 hi).1
        simp at this; omega
      subst e
      simp [hl] at hi
      exact hi ▸ hy
theorem open_kd {α H : Type} {enc : TypeId × Value → H} {P : Program} {W : World} {sp : Nat → Bool} {held : Bool} (d : Kd α) {Good : α → Prop} {t e : TypeId} (ht : P.underlying t = some (.slice e)) (hce : P.cellsOf e = d.sz)
    (hel : ∀ n cs x, cs.length = d.sz → DataW.trod enc P W 0 sp held n e cs = some x → ∃ a : α, d.K W a cs ∧ Good a)
    {A0 : Option Addr} {n0 c0 : Nat} {ds : DataW H} {ps : List MemPlace} (h : DataW.Trod enc P W 0 sp held t (.slice A0 n0 c0) ds ps) :
    ∃ xs : List α, n0 = xs.length ∧ xs.length ≤ c0 ∧ d.C W A0 xs.length xs ∧ ∀ x ∈ xs, Good x := by
  obtain ⟨fuel, hf⟩ := h
  rcases open_slice ht hf with ⟨hcs, _⟩ | ⟨a, len, cap, m, n, D, Pl, hcs, hb, hl, hm, hmm, hx, hall⟩
  · simp [Value.cells] at hcs
    obtain ⟨rfl, rfl, rfl⟩ := hcs
    exact ⟨[], rfl, Nat.le_refl _, Kd.C_nil d W, by simp⟩
  · simp [Value.cells] at hcs
    obtain ⟨rfl, rfl, rfl⟩ := hcs
    have hlm : n0 ≤ m := by rw [hmm]; split <;> omega
    have each : ∀ i, i < n0 → ∃ x : α, Good x ∧ ∃ c, c.length = d.sz ∧ d.K W x c ∧ ∀ j u, c[j]? = some u → W.cell? (a.add (i * d.sz + j)) = some u := by
      intro i hi
      obtain ⟨cs', h1, h2⟩ := hall i (by omega)
      rw [hce] at h1
      obtain ⟨_, hlen, hcell⟩ := World.cells?_some h1
      obtain ⟨x, hK, hG⟩ := hel _ _ _ hlen h2
      refine ⟨x, hG, cs', hlen, hK, fun j u hu => ?_⟩
      have hj : j < d.sz := by rw [← hlen]; exact (List.getElem?_eq_some_iff.1 hu).1
      rw [← Deep.add_add, hcell j hj]; exact hu
    obtain ⟨xs, hxl, hxs⟩ := choose_list each
    refine ⟨xs, hxl.symm, by omega, ⟨rfl, ?_, fun _ => ⟨a, rfl, fun j p hj => (hxs j p hj).2⟩⟩, fun x hx => ?_⟩
    · have : maxLen ≤ 9223372036854775807 := by decide
      omega
    · obtain ⟨i, hi⟩ := List.getElem?_of_mem hx
      exact (hxs i x hi).1
theorem list5 {α : Type} {l : List α} (h : l.length = 5) : ∃ a0 a1 a2 a3 a4, l = [a0, a1, a2, a3, a4] := by
  match l, h with
  | [a0, a1, a2, a3, a4], _ => exact ⟨a0, a1, a2, a3, a4, rfl⟩
theorem read_steps {H : Type} {enc : TypeId × Value → H} {W : World} {sp : Nat → Bool} {held : Bool} {n : Nat} {cs : List Value} {x : DataW H × List MemPlace} (hl : cs.length = 5) (hx : DataW.trod enc Try.prog W 0 sp held n 26 cs = some x) : ∃ (u0 : Int) (u1 : ByteArray) (u2 : Int) (u3 : Int) (u4 : Int), cs = ([.int .i64 u0, .string u1, .int .i64 u2, .int .i64 u3, .int .i64 u4]) := by
  obtain ⟨ys, m, _, rfl, _, hlen, hf⟩ := DataW.trod_struct Try.underlying26 hx
  have hlen' : ys.length = 5 := hlen
  obtain ⟨v0, v1, v2, v3, v4, rfl⟩ := list5 hl
  obtain ⟨y0, y1, y2, y3, y4, rfl⟩ := list5 hlen'
  have g0 := hf 0 _ rfl
  have g1 := hf 1 _ rfl
  have g2 := hf 2 _ rfl
  have g3 := hf 3 _ rfl
  have g4 := hf 4 _ rfl
  simp only [List.getElem_toArray, List.getElem_cons_zero, List.getElem_cons_succ, show Try.prog.cellsOf 2 = 1 from by kernel_rfl, show Try.prog.cellsOf 9 = 1 from by kernel_rfl, List.drop, List.take, List.getElem?_cons_zero, List.getElem?_cons_succ] at g0 g1 g2 g3 g4
  obtain ⟨u0, e0, _, _⟩ := DataW.trod_int Try.underlying2 g0
  obtain ⟨u1, e1, _, _⟩ := DataW.trod_string Try.underlying9 g1
  obtain ⟨u2, e2, _, _⟩ := DataW.trod_int Try.underlying2 g2
  obtain ⟨u3, e3, _, _⟩ := DataW.trod_int Try.underlying2 g3
  obtain ⟨u4, e4, _, _⟩ := DataW.trod_int Try.underlying2 g4
  simp only [List.cons.injEq, and_true] at e0 e1 e2 e3 e4
  subst e0 e1 e2 e3 e4
  exact ⟨u0, u1, u2, u3, u4, rfl⟩
theorem open_steps {H : Type} {enc : TypeId × Value → H} {W : World} {sp : Nat → Bool} {held : Bool} {A0 : Option Addr} {n0 c0 : Nat} {ds : DataW H} {ps : List MemPlace} (h : DataW.Trod enc Try.prog W 0 sp held 22 (.slice A0 n0 c0) ds ps) :
    ∃ xs : List PFnMapState.S26, n0 = xs.length ∧ xs.length ≤ c0 ∧ Kd.C PFnMapState.k26 W A0 xs.length xs := by
  obtain ⟨xs, e, hc, hC, _⟩ := open_kd (Good := fun _ => True) PFnMapState.k26 Try.underlying22 (by kernel_rfl) (fun n cs x hl hx => by
    obtain ⟨u0, u1, u2, u3, u4, rfl⟩ := read_steps hl hx
    exact ⟨⟨u0, u1, u2, u3, u4⟩, PFnMapState.k26_mk W ⟨u0, u1, u2, u3, u4⟩, trivial⟩) h
  exact ⟨xs, e, hc, hC⟩
end Go.Proofs.Ytoigekmdicepnaa
