/- Two slices of numbers in one struct: appended to side by side. -/
import Derived.Test.YtoigekmdicepnaaUb
set_option linter.unusedVariables false
set_option linter.unusedSimpArgs false
namespace Go.Proofs.Ytoigekmdicepnaa
open Go.RowKit Go.Proofs.YtoigekmdicepnaaW.PrintWords Go.Proofs.YtoigekmdicepnaaW.PrintLast Go.Proofs.YtoigekmdicepnaaW.PrintMore

/-- A struct of two slices at block g whose cells read u0 and u1, and two rows of the call's own, apart. -/
structure TC (w0 : World) (base g : Nat) (u0 u1 vA vV : Value) (xs ys : List Int) (z : World) : Prop where
  blk : z.heap[g]? = some (.cells #[u0, u1] 56 (0, 0))
  rA : (Kd.int .i64).R 2 z base (fun k => some k ≠ vV.ownBlock) vA xs
  rV : (Kd.int .i64).R 2 z base (fun k => some k ≠ vA.ownBlock) vV ys
  bel : Below base w0 z
  bg : base ≤ g
theorem TC.size {w0 z : World} {base g : Nat} {u0 u1 vA vV : Value} {xs ys : List Int} (h : TC w0 base g u0 u1 vA vV xs ys z) : base ≤ z.heap.size := by
  have := blk_lt h.blk; have := h.bg; omega
theorem TC.swap {w0 z : World} {base g : Nat} {u0 u1 vA vV : Value} {xs ys : List Int} (h : TC w0 base g u0 u1 vA vV xs ys z) : TC w0 base g u0 u1 vV vA ys xs z := ⟨h.blk, h.rV, h.rA, h.bel, h.bg⟩
theorem TC.alloc {w0 z : World} {base g : Nat} {u0 u1 vA vV : Value} {xs ys : List Int} (h : TC w0 base g u0 u1 vA vV xs ys z) (o : Obj) : TC w0 base g u0 u1 vA vV xs ys (z.alloc o) :=
  ⟨blk_alloc h.blk o, Kd.R_alloc h.rA o, Kd.R_alloc h.rV o, h.bel.alloc h.size o, h.bg⟩
theorem TC.drew {w0 z : World} {base g : Nat} {u0 u1 vA vV : Value} {xs ys : List Int} (h : TC w0 base g u0 u1 vA vV xs ys z) : TC w0 base g u0 u1 vA vV xs ys z.drew :=
  ⟨blk_drew h.blk, Kd.R_drew h.rA, Kd.R_drew h.rV, below_drew h.bel, h.bg⟩
theorem TC.drewN {w0 z : World} {base g : Nat} {u0 u1 vA vV : Value} {xs ys : List Int} (h : TC w0 base g u0 u1 vA vV xs ys z) (m : Nat) : TC w0 base g u0 u1 vA vV xs ys (z.drewN m) :=
  ⟨h.blk, Kd.R_drewN h.rA m, Kd.R_drewN h.rV m, below_drewN h.bel m, h.bg⟩
theorem TC.set0 {w0 z : World} {base g : Nat} {u0 u1 vA vV : Value} {xs ys : List Int} (h : TC w0 base g u0 u1 vA vV xs ys z) (u : Value) : TC w0 base g u u1 vA vV xs ys (z.setCell ⟨g, 0, none⟩ u) :=
  ⟨blk_set h.blk 0 u, Kd.R_set h.rA h.blk (by decide) 0 u, Kd.R_set h.rV h.blk (by decide) 0 u, h.bel.setCell h.bg u, h.bg⟩
theorem TC.set1 {w0 z : World} {base g : Nat} {u0 u1 vA vV : Value} {xs ys : List Int} (h : TC w0 base g u0 u1 vA vV xs ys z) (u : Value) : TC w0 base g u0 u vA vV xs ys (z.setCell ⟨g, 1, none⟩ u) :=
  ⟨blk_set h.blk 1 u, Kd.R_set h.rA h.blk (by decide) 1 u, Kd.R_set h.rV h.blk (by decide) 1 u, h.bel.setCell h.bg u, h.bg⟩
/-- A literal of one number, apart from both rows. -/
structure Lt1 (n : Nat) (p : Int) (vA vV : Value) (z : World) : Prop where
  blk : z.heap[n]? = some (.cells #[.int .i64 p] 2 (0, 0))
  nA : some n ≠ vA.ownBlock
  nV : some n ≠ vV.ownBlock
theorem Lt1.swap {n : Nat} {p : Int} {vA vV : Value} {z : World} (h : Lt1 n p vA vV z) : Lt1 n p vV vA z := ⟨h.blk, h.nV, h.nA⟩
theorem Lt1.alloc {n : Nat} {p : Int} {vA vV : Value} {z : World} (h : Lt1 n p vA vV z) (o : Obj) : Lt1 n p vA vV (z.alloc o) := ⟨blk_alloc h.blk o, h.nA, h.nV⟩
theorem TC.lit {w0 z : World} {base g : Nat} {u0 u1 vA vV : Value} {xs ys : List Int} (h : TC w0 base g u0 u1 vA vV xs ys z) (p : Int) : Lt1 z.heap.size p vA vV (z.alloc (.cells #[.int .i64 p] 2)) :=
  ⟨heap_alloc_new z _, R_new_ne h.rA, R_new_ne h.rV⟩
theorem C_lit1 {w : World} {g : Nat} {t : TypeId} {x : Int} (h : w.heap[g]? = some (.cells #[.int .i64 x] t (0, 0))) : (Kd.int .i64).C w (some ⟨g, 0, none⟩) 1 [x] := by
  refine ⟨rfl, by decide, fun _ => ⟨⟨g, 0, none⟩, rfl, fun j p hp => ⟨[.int .i64 p], rfl, rfl, fun i u hu => ?_⟩⟩⟩
  have hj : j = 0 := by
    by_cases hj : j = 0
    · exact hj
    · rw [List.getElem?_eq_none (by simp; omega)] at hp; cases hp
  have hi : i = 0 := by
    by_cases hi : i = 0
    · exact hi
    · rw [List.getElem?_eq_none (by simp; omega)] at hu; cases hu
  subst hi; subst hj
  have hu' : Value.int .i64 p = u := by simpa using hu
  have hp' : x = p := by simpa using hp
  subst hu'; subst hp'
  exact (blk_cell h 0).trans rfl
theorem Lt1.C {n : Nat} {p : Int} {vA vV : Value} {z : World} (h : Lt1 n p vA vV z) : (Kd.int .i64).C z (some ⟨n, 0, none⟩) 1 [p] := C_lit1 h.blk
section
variable {P : Program} {ops : Array Oper} {o : Oper} {a : Act} {Q : Exit → Act → World → Prop} {Kc : Act → World → Prop}
/-- append to the first of the two rows, as one step of a region that draws. -/
theorem TC.appA {w0 W : World} {base g n : Nat} {u0 u1 vA vV : Value} {xs ys : List Int} {p : Int} (HT : TC w0 base g u0 u1 vA vV xs ys W) (HL : Lt1 n p vA vV W) (hw : Region.wanted o (yielded ops a.tmps) = true) (s x : Operand) (t : TypeId)
    (ho : o.op = .call { callee := .builtin .append, args := #[s, x], argTypes := #[t, t] })
    (ht : P.underlying t = some (.slice 2)) (hinfo : (P.info? 2).map (fun i => (i.zero, i.size, i.bytes)) = some (some (.int .i64 0), 1, 8))
    (hs : a.eval s = vA) (hx : a.eval x = .slice (some ⟨n, 0, none⟩) 1 1) (hl : (xs.length + 1) * 8 ≤ 140737488355328)
    (h : ∀ A c w1, TC w0 base g u0 u1 (.slice A (xs.length + 1) c) vV (xs ++ [p]) ys w1 → (∀ n' p', Lt1 n' p' vA vV W → Lt1 n' p' (.slice A (xs.length + 1) c) vV w1) → Kc (a.put o.dst (.slice A (xs.length + 1) c)) w1) :
    if Region.wanted o (yielded ops a.tmps) = true then Oper.wp P o a W Kc Q else Kc (a.put o.dst undef) W := by
  refine Kd.R_append_rows_step (Kd.int .i64) (Rr := (Kd.int .i64).K W) (w0 := w0) base hw s x t 2 _ 8 ho ht hinfo rfl (by decide) (by decide) vA xs [p] (some ⟨n, 0, none⟩) 1 1 (fun k => some k ≠ vV.ownBlock) (fun _ => False) hs hx HT.rA HL.C (fun _ _ q => q) (fun _ q => q.elim) (fun k hk q => by have := Kd.R_lt HT.rV k q.symm; omega) HT.bel HT.size hl (fun v1 w1 h1 h2 h3 h4 => ?_)
  obtain ⟨A1, c1, hv⟩ := Kd.R_slice h1
  rw [List.length_append, List.length_singleton] at hv
  subst hv
  have hne : ∀ k, vA.ownBlock = some k → some k ≠ vV.ownBlock := fun k hk => by obtain ⟨q1, _⟩ := HT.rA; exact q1 k hk
  have hown : ∀ k, (Value.slice A1 (xs.length + 1) c1).ownBlock = some k → vA.ownBlock = some k ∨ W.heap.size ≤ k := fun k hk => by
    rcases h4 with h4 | ⟨b, h4, h5⟩
    · left; rw [← h4]; exact hk
    · right; rw [hk] at h4; injection h4 with h4; omega
  refine h A1 c1 w1 ⟨?_, h1, ?_, h2, HT.bg⟩ (fun n' p' L => ⟨?_, ?_, L.nV⟩)
  · exact blk_grown HT.blk h3 (Kd.R_ne HT.rA HT.blk (by decide))
  · have hb := Kd.R_mono (Kd.R_grown (Kd.R_bound HT.rV) h3 (fun k hk => fun q => hk.1 q)) (fun k hk => hk)
    refine Kd.R_mono hb (fun k hk q => ?_)
    rcases hown k q.symm with h6 | h6
    · exact hk.1 h6.symm
    · have := hk.2.2.1; omega
  · exact blk_grown L.blk h3 L.nA
  · intro q
    rcases hown n' q.symm with h6 | h6
    · exact L.nA h6.symm
    · have := blk_lt L.blk; omega
theorem TC.appV {w0 W : World} {base g n : Nat} {u0 u1 vA vV : Value} {xs ys : List Int} {p : Int} (HT : TC w0 base g u0 u1 vA vV xs ys W) (HL : Lt1 n p vA vV W) (hw : Region.wanted o (yielded ops a.tmps) = true) (s x : Operand) (t : TypeId)
    (ho : o.op = .call { callee := .builtin .append, args := #[s, x], argTypes := #[t, t] })
    (ht : P.underlying t = some (.slice 2)) (hinfo : (P.info? 2).map (fun i => (i.zero, i.size, i.bytes)) = some (some (.int .i64 0), 1, 8))
    (hs : a.eval s = vV) (hx : a.eval x = .slice (some ⟨n, 0, none⟩) 1 1) (hl : (ys.length + 1) * 8 ≤ 140737488355328)
    (h : ∀ A c w1, TC w0 base g u0 u1 vA (.slice A (ys.length + 1) c) xs (ys ++ [p]) w1 → (∀ n' p', Lt1 n' p' vA vV W → Lt1 n' p' vA (.slice A (ys.length + 1) c) w1) → Kc (a.put o.dst (.slice A (ys.length + 1) c)) w1) :
    if Region.wanted o (yielded ops a.tmps) = true then Oper.wp P o a W Kc Q else Kc (a.put o.dst undef) W :=
  TC.appA HT.swap HL.swap hw s x t ho ht hinfo hs hx hl (fun A c w1 h1 h2 => h A c w1 h1.swap (fun n' p' L => (h2 n' p' L.swap).swap))
end
end Go.Proofs.Ytoigekmdicepnaa
