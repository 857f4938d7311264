/- Contracts and plain laws, several texts in one. -/
import Derived.Test.YtgdbeiadlgkedaaGreatDoorMHeader6
import Derived.Test.YtgdbeiadlgkedaaGreatDoorMHeader11
import Derived.Deep.Slices
import Derived.Deep.Strs
import Derived.RowKit
import Derived.ChangeArms
import Derived.Lib.SmallJoins
import Derived.ChangeSame
import Derived.Deep.Fields
set_option linter.unusedVariables false
set_option linter.unusedSimpArgs false
namespace Go.Proofs.YtgdbeiadlgkedaaGreatDoor
open Go.RowKit Go.Deep PFnWindowOne Go.Proofs.YtgdbeiadlgkedaaGreatDoorW.PrintWords
theorem choose_list {α : Type} {n : Nat} {p : Nat → α → Prop} (h : ∀ i, i < n → ∃ x, p i x) : ∃ xs : List α, xs.length = n ∧ ∀ i x, xs[i]? = some x → p i x := by
  induction n with
  | zero => exact ⟨[], rfl, by simp⟩
  | succ n ih =>
    obtain ⟨xs, hl, hx⟩ := ih (fun i hi => h i (by omega))
    obtain ⟨y, hy⟩ := h n (by omega)
    refine ⟨xs ++ [y], by simp [hl], fun i x hi => ?_⟩
    by_cases hlt : i < xs.length
    · rw [List.getElem?_append_left hlt] at hi; exact hx i x hi
    · rw [List.getElem?_append_right (by omega)] at hi
      have e : i = n := by
        have := (List.getElem?_eq_some_iff.1 hi).1
        simp at this; omega
      subst e
      simp [hl] at hi
      exact hi ▸ hy
theorem open_kd {α H : Type} {enc : TypeId × Value → H} {P : Program} {W : World} {sp : Nat → Bool} {held : Bool} (d : Kd α) {Good : α → Prop} {t e : TypeId} (ht : P.underlying t = some (.slice e)) (hce : P.cellsOf e = d.sz)
    (hel : ∀ n cs x, cs.length = d.sz → DataW.trod enc P W 0 sp held n e cs = some x → ∃ a : α, d.K W a cs ∧ Good a)
    {A0 : Option Addr} {n0 c0 : Nat} {ds : DataW H} {ps : List MemPlace} (h : DataW.Trod enc P W 0 sp held t (.slice A0 n0 c0) ds ps) :
    ∃ xs : List α, n0 = xs.length ∧ xs.length ≤ c0 ∧ d.C W A0 xs.length xs ∧ ∀ x ∈ xs, Good x := by
  obtain ⟨fuel, hf⟩ := h
  rcases open_slice ht hf with ⟨hcs, _⟩ | ⟨a, len, cap, m, n, D, Pl, hcs, hb, hl, hm, hmm, hx, hall⟩
  · simp [Value.cells] at hcs
    obtain ⟨rfl, rfl, rfl⟩ := hcs
    exact ⟨[], rfl, Nat.le_refl _, Kd.C_nil d W, by simp⟩
  · simp [Value.cells] at hcs
    obtain ⟨rfl, rfl, rfl⟩ := hcs
    have hlm : n0 ≤ m := by rw [hmm]; split <;> omega
    have each : ∀ i, i < n0 → ∃ x : α, Good x ∧ ∃ c, c.length = d.sz ∧ d.K W x c ∧ ∀ j u, c[j]? = some u → W.cell? (a.add (i * d.sz + j)) = some u := by
      intro i hi
      obtain ⟨cs', h1, h2⟩ := hall i (by omega)
      rw [hce] at h1
      obtain ⟨_, hlen, hcell⟩ := World.cells?_some h1
      obtain ⟨x, hK, hG⟩ := hel _ _ _ hlen h2
      refine ⟨x, hG, cs', hlen, hK, fun j u hu => ?_⟩
      have hj : j < d.sz := by rw [← hlen]; exact (List.getElem?_eq_some_iff.1 hu).1
      rw [← Deep.add_add, hcell j hj]; exact hu
    obtain ⟨xs, hxl, hxs⟩ := choose_list each
    refine ⟨xs, hxl.symm, by omega, ⟨rfl, ?_, fun _ => ⟨a, rfl, fun j p hj => (hxs j p hj).2⟩⟩, fun x hx => ?_⟩
    · have : maxLen ≤ 9223372036854775807 := by decide
      omega
    · obtain ⟨i, hi⟩ := List.getElem?_of_mem hx
      exact (hxs i x hi).1
theorem list3 {α : Type} {l : List α} (h : l.length = 3) : ∃ a b c, l = [a, b, c] := by
  match l, h with
  | [a, b, c], _ => exact ⟨a, b, c, rfl⟩
theorem open_sp {H : Type} {enc : TypeId × Value → H} {W : World} {sp : Nat → Bool} {held : Bool} {A0 : Option Addr} {n0 c0 : Nat} {ds : DataW H} {ps : List MemPlace} (h : DataW.Trod enc Tryz.prog W 0 sp held 25 (.slice A0 n0 c0) ds ps) :
    ∃ xs : List S23, n0 = xs.length ∧ xs.length ≤ c0 ∧ k23.C W A0 xs.length xs := by
  obtain ⟨xs, e, hc, hC, _⟩ := open_kd (Good := fun _ => True) k23 Tryz.underlying25 (by kernel_rfl) (fun n cs x hl hx => by
    obtain ⟨y0, y1, y2, k, hxy, _, u0, u1, u2⟩ := trod_struct3 Tryz.underlying23 hx
    have hl3 : cs.length = 3 := hl
    clear hl hx
    obtain ⟨v0, v1, v2, rfl⟩ := list3 hl3
    clear hl3
    · rw [show Tryz.prog.cellsOf 4 = 1 from by kernel_rfl] at u0
      rw [show Tryz.prog.cellsOf 2 = 1 from by kernel_rfl] at u1 u2
      simp only [List.drop, List.take] at u0 u1 u2
      obtain ⟨s, e0, d0⟩ := DataW.trod_bool Tryz.underlying4 u0
      obtain ⟨q, e1, d1, _⟩ := DataW.trod_int Tryz.underlying2 u1
      obtain ⟨p, e2, d2, _⟩ := DataW.trod_int Tryz.underlying2 u2
      simp only [List.cons.injEq, and_true] at e0 e1 e2
      subst e0; subst e1; subst e2
      exact ⟨⟨s, q, p⟩, Kd.K_of_M _ (k23_mkM W 0 (fun _ => True) ⟨s, q, p⟩), trivial⟩) h
  exact ⟨xs, e, hc, hC⟩
end Go.Proofs.YtgdbeiadlgkedaaGreatDoor
set_option linter.unusedVariables false
set_option linter.unusedSimpArgs false
namespace Go.Proofs.YtgdbeiadlgkedaaGreatDoor
open Go.Joins Go.ChangeShapes Go.WideShapes Go.RowKit Go.Deep PFnWindowOne
theorem read_head {H : Type} {enc : TypeId × Value → H} {W : World} {sp : Nat → Bool} {held : Bool} {fuel : Nat} {cs : List Value} {x : DataW H × List MemPlace} (hl : cs.length = 8) (hx : DataW.trod enc Tryz.prog W 0 sp held fuel 44 cs = some x) :
    ∃ (a0 : Bool) (A : Option Addr) (n c : Nat) (l : List S23) (a2 a3 : Int) (a4 a5 : Bool) (a6 a7 : Int), cs = [.bool a0, .slice A n c, .int .i64 a2, .int .i64 a3, .bool a4, .bool a5, .int .i64 a6, .int .i64 a7] ∧ n = l.length ∧ l.length ≤ c ∧ k23.C W A l.length l ∧ (Lit.int .i64 a2).wf = true ∧ (Lit.int .i64 a3).wf = true ∧ (Lit.int .i64 a6).wf = true ∧ (Lit.int .i64 a7).wf = true := by
  match cs, hl with
  | [c0, c1, c2, c3, c4, c5, c6, c7], _ =>
    obtain ⟨ys, n, _, rfl, _, hlen, hf⟩ := DataW.trod_struct Tryz.underlying44 hx
    have hlen' : ys.length = 4 := hlen
    match ys, hlen' with
    | [y0, y1, y2, y3], _ =>
      have g0 := hf 0 _ rfl
      have g1 := hf 1 _ rfl
      have g2 := hf 2 _ rfl
      have g3 := hf 3 _ rfl
      simp only [List.getElem_toArray, List.getElem_cons_zero, List.getElem_cons_succ, List.drop, List.take, List.getElem?_cons_zero, List.getElem?_cons_succ, show Tryz.prog.cellsOf 2 = 1 from by kernel_rfl, show Tryz.prog.cellsOf 4 = 1 from by kernel_rfl, show Tryz.prog.cellsOf 25 = 1 from by kernel_rfl, show Tryz.prog.cellsOf 42 = 5 from by kernel_rfl] at g0 g1 g2 g3
      obtain ⟨zs, n2, _, rfl, _, hlen2, hf2⟩ := DataW.trod_struct Tryz.underlying42 g3
      have hlen2' : zs.length = 5 := hlen2
      match zs, hlen2' with
      | [z0, z1, z2, z3, z4], _ =>
        have g30 := hf2 0 _ rfl
        have g4 := hf2 1 _ rfl
        have g5 := hf2 2 _ rfl
        have g6 := hf2 3 _ rfl
        have g7 := hf2 4 _ rfl
        simp only [List.getElem_toArray, List.getElem_cons_zero, List.getElem_cons_succ, List.drop, List.take, List.getElem?_cons_zero, List.getElem?_cons_succ, show Tryz.prog.cellsOf 2 = 1 from by kernel_rfl, show Tryz.prog.cellsOf 4 = 1 from by kernel_rfl, show Tryz.prog.cellsOf 25 = 1 from by kernel_rfl, show Tryz.prog.cellsOf 42 = 5 from by kernel_rfl] at g30 g4 g5 g6 g7
        obtain ⟨a0, e0, _⟩ := DataW.trod_bool Tryz.underlying4 g0
        obtain ⟨a2, e2, _, w2⟩ := DataW.trod_int Tryz.underlying2 g2
        obtain ⟨a3, e3, _, w3⟩ := DataW.trod_int Tryz.underlying2 g30
        obtain ⟨a4, e4, _⟩ := DataW.trod_bool Tryz.underlying4 g4
        obtain ⟨a5, e5, _⟩ := DataW.trod_bool Tryz.underlying4 g5
        obtain ⟨a6, e6, _, w6⟩ := DataW.trod_int Tryz.underlying2 g6
        obtain ⟨a7, e7, _, w7⟩ := DataW.trod_int Tryz.underlying2 g7
        obtain ⟨A, m, c, e1⟩ : ∃ (A : Option Addr) (m c : Nat), [c1] = [Value.slice A m c] := by
          rcases open_slice Tryz.underlying25 g1 with ⟨hcs, _⟩ | ⟨a, len, cap, m, n, D, Pl, hcs, _⟩
          · exact ⟨none, 0, 0, hcs⟩
          · exact ⟨some a, len, cap, hcs⟩
        simp only [List.cons.injEq, and_true] at e0 e1 e2 e3 e4 e5 e6 e7
        subst e0 e1 e2 e3 e4 e5 e6 e7
        obtain ⟨l, hn, hc, hC⟩ := open_sp (W := W) (A0 := A) (n0 := m) (c0 := c) (ds := y1.1) (ps := y1.2) ⟨n, g1⟩
        exact ⟨a0, A, m, c, l, a2, a3, a4, a5, a6, a7, rfl, hn, hc, hC, w2, w3, w6, w7⟩
set_option maxRecDepth 100000 in
theorem open_head {H : Type} {enc : TypeId × Value → H} {W : World} {spare : Nat → Bool} {held : Bool} {r : Reach} {b0 : Nat} {v : Value} {d : DataW H} {p : List MemPlace}
    (hv : Value.okWide Tryz.prog W r b0 44 v) (h : DataW.Trod enc Tryz.prog W 0 spare held 44 v d p) :
    ∃ (a0 : Bool) (A : Option Addr) (n c : Nat) (l : List S23) (a2 a3 : Int) (a4 a5 : Bool) (a6 a7 : Int), v = .agg (hdV a0 A n c a2 a3 a4 a5 a6 a7) ∧ n = l.length ∧ l.length ≤ c ∧ k23.C W A l.length l ∧ (Lit.int .i64 a2).wf = true ∧ (Lit.int .i64 a3).wf = true ∧ (Lit.int .i64 a6).wf = true ∧ (Lit.int .i64 a7).wf = true := by
  obtain ⟨cells, rfl, hsz⟩ := okWide_struct Tryz.underlying44 hv
  obtain ⟨l⟩ := cells
  have hC : Tryz.prog.cellsOf 44 = 8 := by kernel_rfl
  have hlen0 : l.length = 8 := hsz.trans hC
  obtain ⟨fuel, hf⟩ := h
  obtain ⟨a0, A, n, c, ll, a2, a3, a4, a5, a6, a7, e, hw⟩ := read_head hlen0 hf
  subst e
  exact ⟨a0, A, n, c, ll, a2, a3, a4, a5, a6, a7, rfl, hw⟩
end Go.Proofs.YtgdbeiadlgkedaaGreatDoor
