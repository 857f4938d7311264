/- Two slices of numbers in an answer: appended to side by side. -/
import Derived.Test.YtoigekmdicepnaaUd
set_option linter.unusedVariables false
set_option linter.unusedSimpArgs false
namespace Go.Proofs.Ytoigekmdicepnaa
open Go.RowKit Go.Proofs.YtoigekmdicepnaaW.PrintWords Go.Proofs.YtoigekmdicepnaaW.PrintLast Go.Proofs.YtoigekmdicepnaaW.PrintMore
/-- A struct of two slices at block g whose cells read u0 and u1, and two rows of the call's own, apart. -/
structure TD (w0 : World) (base g : Nat) (b0 b2 u0 u1 vA vV : Value) (xs ys : List Int) (z : World) : Prop where
  blk : z.heap[g]? = some (.cells #[b0, u0, b2, u1] 36 (0, 0))
  rA : (Kd.int .i64).R 2 z base (fun k => some k ≠ vV.ownBlock) vA xs
  rV : (Kd.int .i64).R 2 z base (fun k => some k ≠ vA.ownBlock) vV ys
  bel : Below base w0 z
  bg : base ≤ g
theorem TD.size {w0 z : World} {base g : Nat} {b0 b2 u0 u1 vA vV : Value} {xs ys : List Int} (h : TD w0 base g b0 b2 u0 u1 vA vV xs ys z) : base ≤ z.heap.size := by
  have := blk_lt h.blk; have := h.bg; omega
theorem TD.swap {w0 z : World} {base g : Nat} {b0 b2 u0 u1 vA vV : Value} {xs ys : List Int} (h : TD w0 base g b0 b2 u0 u1 vA vV xs ys z) : TD w0 base g b0 b2 u0 u1 vV vA ys xs z := ⟨h.blk, h.rV, h.rA, h.bel, h.bg⟩
theorem TD.alloc {w0 z : World} {base g : Nat} {b0 b2 u0 u1 vA vV : Value} {xs ys : List Int} (h : TD w0 base g b0 b2 u0 u1 vA vV xs ys z) (o : Obj) : TD w0 base g b0 b2 u0 u1 vA vV xs ys (z.alloc o) :=
  ⟨blk_alloc h.blk o, Kd.R_alloc h.rA o, Kd.R_alloc h.rV o, h.bel.alloc h.size o, h.bg⟩
theorem TD.drew {w0 z : World} {base g : Nat} {b0 b2 u0 u1 vA vV : Value} {xs ys : List Int} (h : TD w0 base g b0 b2 u0 u1 vA vV xs ys z) : TD w0 base g b0 b2 u0 u1 vA vV xs ys z.drew :=
  ⟨blk_drew h.blk, Kd.R_drew h.rA, Kd.R_drew h.rV, below_drew h.bel, h.bg⟩
theorem TD.drewN {w0 z : World} {base g : Nat} {b0 b2 u0 u1 vA vV : Value} {xs ys : List Int} (h : TD w0 base g b0 b2 u0 u1 vA vV xs ys z) (m : Nat) : TD w0 base g b0 b2 u0 u1 vA vV xs ys (z.drewN m) :=
  ⟨h.blk, Kd.R_drewN h.rA m, Kd.R_drewN h.rV m, below_drewN h.bel m, h.bg⟩
theorem TD.set0 {w0 z : World} {base g : Nat} {b0 b2 u0 u1 vA vV : Value} {xs ys : List Int} (h : TD w0 base g b0 b2 u0 u1 vA vV xs ys z) (u : Value) : TD w0 base g b0 b2 u u1 vA vV xs ys (z.setCell ⟨g, 1, none⟩ u) :=
  ⟨blk_set h.blk 1 u, Kd.R_set h.rA h.blk (by decide) 1 u, Kd.R_set h.rV h.blk (by decide) 1 u, h.bel.setCell h.bg u, h.bg⟩
theorem TD.set1 {w0 z : World} {base g : Nat} {b0 b2 u0 u1 vA vV : Value} {xs ys : List Int} (h : TD w0 base g b0 b2 u0 u1 vA vV xs ys z) (u : Value) : TD w0 base g b0 b2 u0 u vA vV xs ys (z.setCell ⟨g, 3, none⟩ u) :=
  ⟨blk_set h.blk 3 u, Kd.R_set h.rA h.blk (by decide) 3 u, Kd.R_set h.rV h.blk (by decide) 3 u, h.bel.setCell h.bg u, h.bg⟩
section
variable {P : Program} {ops : Array Oper} {o : Oper} {a : Act} {Q : Exit → Act → World → Prop} {Kc : Act → World → Prop}
/-- append to the first of the two rows, as one step of a region that draws. -/
theorem TD.appA {w0 W : World} {base g n : Nat} {b0 b2 u0 u1 vA vV : Value} {xs ys : List Int} {p : Int} (HT : TD w0 base g b0 b2 u0 u1 vA vV xs ys W) (HL : Lt1 n p vA vV W) (hw : Region.wanted o (yielded ops a.tmps) = true) (s x : Operand) (t : TypeId)
    (ho : o.op = .call { callee := .builtin .append, args := #[s, x], argTypes := #[t, t] })
    (ht : P.underlying t = some (.slice 2)) (hinfo : (P.info? 2).map (fun i => (i.zero, i.size, i.bytes)) = some (some (.int .i64 0), 1, 8))
    (hs : a.eval s = vA) (hx : a.eval x = .slice (some ⟨n, 0, none⟩) 1 1) (hl : (xs.length + 1) * 8 ≤ 140737488355328)
    (h : ∀ A c w1, TD w0 base g b0 b2 u0 u1 (.slice A (xs.length + 1) c) vV (xs ++ [p]) ys w1 → (∀ n' p', Lt1 n' p' vA vV W → Lt1 n' p' (.slice A (xs.length + 1) c) vV w1) → Kc (a.put o.dst (.slice A (xs.length + 1) c)) w1) :
    if Region.wanted o (yielded ops a.tmps) = true then Oper.wp P o a W Kc Q else Kc (a.put o.dst undef) W := by
  refine Kd.R_append_rows_step (Kd.int .i64) (Rr := (Kd.int .i64).K W) (w0 := w0) base hw s x t 2 _ 8 ho ht hinfo rfl (by decide) (by decide) vA xs [p] (some ⟨n, 0, none⟩) 1 1 (fun k => some k ≠ vV.ownBlock) (fun _ => False) hs hx HT.rA HL.C (fun _ _ q => q) (fun _ q => q.elim) (fun k hk q => by have := Kd.R_lt HT.rV k q.symm; omega) HT.bel HT.size hl (fun v1 w1 h1 h2 h3 h4 => ?_)
  obtain ⟨A1, c1, hv⟩ := Kd.R_slice h1
  rw [List.length_append, List.length_singleton] at hv
  subst hv
  have hne : ∀ k, vA.ownBlock = some k → some k ≠ vV.ownBlock := fun k hk => by obtain ⟨q1, _⟩ := HT.rA; exact q1 k hk
  have hown : ∀ k, (Value.slice A1 (xs.length + 1) c1).ownBlock = some k → vA.ownBlock = some k ∨ W.heap.size ≤ k := fun k hk => by
    rcases h4 with h4 | ⟨b, h4, h5⟩
    · left; rw [← h4]; exact hk
    · right; rw [hk] at h4; injection h4 with h4; omega
  refine h A1 c1 w1 ⟨?_, h1, ?_, h2, HT.bg⟩ (fun n' p' L => ⟨?_, ?_, L.nV⟩)
  · exact blk_grown HT.blk h3 (Kd.R_ne HT.rA HT.blk (by decide))
  · have hb := Kd.R_mono (Kd.R_grown (Kd.R_bound HT.rV) h3 (fun k hk => fun q => hk.1 q)) (fun k hk => hk)
    refine Kd.R_mono hb (fun k hk q => ?_)
    rcases hown k q.symm with h6 | h6
    · exact hk.1 h6.symm
    · have := hk.2.2.1; omega
  · exact blk_grown L.blk h3 L.nA
  · intro q
    rcases hown n' q.symm with h6 | h6
    · exact L.nA h6.symm
    · have := blk_lt L.blk; omega
theorem TD.appV {w0 W : World} {base g n : Nat} {b0 b2 u0 u1 vA vV : Value} {xs ys : List Int} {p : Int} (HT : TD w0 base g b0 b2 u0 u1 vA vV xs ys W) (HL : Lt1 n p vA vV W) (hw : Region.wanted o (yielded ops a.tmps) = true) (s x : Operand) (t : TypeId)
    (ho : o.op = .call { callee := .builtin .append, args := #[s, x], argTypes := #[t, t] })
    (ht : P.underlying t = some (.slice 2)) (hinfo : (P.info? 2).map (fun i => (i.zero, i.size, i.bytes)) = some (some (.int .i64 0), 1, 8))
    (hs : a.eval s = vV) (hx : a.eval x = .slice (some ⟨n, 0, none⟩) 1 1) (hl : (ys.length + 1) * 8 ≤ 140737488355328)
    (h : ∀ A c w1, TD w0 base g b0 b2 u0 u1 vA (.slice A (ys.length + 1) c) xs (ys ++ [p]) w1 → (∀ n' p', Lt1 n' p' vA vV W → Lt1 n' p' vA (.slice A (ys.length + 1) c) w1) → Kc (a.put o.dst (.slice A (ys.length + 1) c)) w1) :
    if Region.wanted o (yielded ops a.tmps) = true then Oper.wp P o a W Kc Q else Kc (a.put o.dst undef) W :=
  TD.appA HT.swap HL.swap hw s x t ho ht hinfo hs hx hl (fun A c w1 h1 h2 => h A c w1 h1.swap (fun n' p' L => (h2 n' p' L.swap).swap))
end
theorem TD.lit {w0 z : World} {base g : Nat} {b0 b2 u0 u1 vA vV : Value} {xs ys : List Int} (h : TD w0 base g b0 b2 u0 u1 vA vV xs ys z) (p : Int) : Lt1 z.heap.size p vA vV (z.alloc (.cells #[.int .i64 p] 2)) :=
  ⟨heap_alloc_new z _, R_new_ne h.rA, R_new_ne h.rV⟩
/-- A struct of two slices at block g whose cells read u0 and u1, and two rows of the call's own, apart. -/
structure TE (w0 : World) (base g : Nat) (m9 : Nat) (xc : Array Value) (b0 b2 u0 u1 vA vV : Value) (xs ys : List Int) (z : World) : Prop where
  blk : z.heap[g]? = some (.cells #[b0, u0, b2, u1] 36 (0, 0))
  rA : (Kd.int .i64).R 2 z base (fun k => some k ≠ vV.ownBlock) vA xs
  rV : (Kd.int .i64).R 2 z base (fun k => some k ≠ vA.ownBlock) vV ys
  bel : Below base w0 z
  bg : base ≤ g
  ex : z.heap[m9]? = some (.cells xc 140 (0, 0))
theorem TE.size {w0 z : World} {base g : Nat} {m9 : Nat} {xc : Array Value} {b0 b2 u0 u1 vA vV : Value} {xs ys : List Int} (h : TE w0 base g m9 xc b0 b2 u0 u1 vA vV xs ys z) : base ≤ z.heap.size := by
  have := blk_lt h.blk; have := h.bg; omega
theorem TE.swap {w0 z : World} {base g : Nat} {m9 : Nat} {xc : Array Value} {b0 b2 u0 u1 vA vV : Value} {xs ys : List Int} (h : TE w0 base g m9 xc b0 b2 u0 u1 vA vV xs ys z) : TE w0 base g m9 xc b0 b2 u0 u1 vV vA ys xs z := ⟨h.blk, h.rV, h.rA, h.bel, h.bg, h.ex⟩
theorem TE.alloc {w0 z : World} {base g : Nat} {m9 : Nat} {xc : Array Value} {b0 b2 u0 u1 vA vV : Value} {xs ys : List Int} (h : TE w0 base g m9 xc b0 b2 u0 u1 vA vV xs ys z) (o : Obj) : TE w0 base g m9 xc b0 b2 u0 u1 vA vV xs ys (z.alloc o) :=
  ⟨blk_alloc h.blk o, Kd.R_alloc h.rA o, Kd.R_alloc h.rV o, h.bel.alloc h.size o, h.bg, blk_alloc h.ex o⟩
theorem TE.drew {w0 z : World} {base g : Nat} {m9 : Nat} {xc : Array Value} {b0 b2 u0 u1 vA vV : Value} {xs ys : List Int} (h : TE w0 base g m9 xc b0 b2 u0 u1 vA vV xs ys z) : TE w0 base g m9 xc b0 b2 u0 u1 vA vV xs ys z.drew :=
  ⟨blk_drew h.blk, Kd.R_drew h.rA, Kd.R_drew h.rV, below_drew h.bel, h.bg, blk_drew h.ex⟩
theorem TE.drewN {w0 z : World} {base g : Nat} {m9 : Nat} {xc : Array Value} {b0 b2 u0 u1 vA vV : Value} {xs ys : List Int} (h : TE w0 base g m9 xc b0 b2 u0 u1 vA vV xs ys z) (m : Nat) : TE w0 base g m9 xc b0 b2 u0 u1 vA vV xs ys (z.drewN m) :=
  ⟨h.blk, Kd.R_drewN h.rA m, Kd.R_drewN h.rV m, below_drewN h.bel m, h.bg, h.ex⟩
theorem TE.set0 {w0 z : World} {base g : Nat} {m9 : Nat} {xc : Array Value} {b0 b2 u0 u1 vA vV : Value} {xs ys : List Int} (h : TE w0 base g m9 xc b0 b2 u0 u1 vA vV xs ys z) (u : Value) : TE w0 base g m9 xc b0 b2 u u1 vA vV xs ys (z.setCell ⟨g, 1, none⟩ u) :=
  ⟨blk_set h.blk 1 u, Kd.R_set h.rA h.blk (by decide) 1 u, Kd.R_set h.rV h.blk (by decide) 1 u, h.bel.setCell h.bg u, h.bg, (Below.heap_setCell z _ u m9 (fun e => by subst e; have h1 := h.blk; have h2 := h.ex; rw [h2] at h1; injection h1 with h1; injection h1 with _ h1; exact absurd h1 (by decide))).trans h.ex⟩
theorem TE.set1 {w0 z : World} {base g : Nat} {m9 : Nat} {xc : Array Value} {b0 b2 u0 u1 vA vV : Value} {xs ys : List Int} (h : TE w0 base g m9 xc b0 b2 u0 u1 vA vV xs ys z) (u : Value) : TE w0 base g m9 xc b0 b2 u0 u vA vV xs ys (z.setCell ⟨g, 3, none⟩ u) :=
  ⟨blk_set h.blk 3 u, Kd.R_set h.rA h.blk (by decide) 3 u, Kd.R_set h.rV h.blk (by decide) 3 u, h.bel.setCell h.bg u, h.bg, (Below.heap_setCell z _ u m9 (fun e => by subst e; have h1 := h.blk; have h2 := h.ex; rw [h2] at h1; injection h1 with h1; injection h1 with _ h1; exact absurd h1 (by decide))).trans h.ex⟩
section
variable {P : Program} {ops : Array Oper} {o : Oper} {a : Act} {Q : Exit → Act → World → Prop} {Kc : Act → World → Prop}
/-- append to the first of the two rows, as one step of a region that draws. -/
theorem TE.appA {w0 W : World} {base g n : Nat} {m9 : Nat} {xc : Array Value} {b0 b2 u0 u1 vA vV : Value} {xs ys : List Int} {p : Int} (HT : TE w0 base g m9 xc b0 b2 u0 u1 vA vV xs ys W) (HL : Lt1 n p vA vV W) (hw : Region.wanted o (yielded ops a.tmps) = true) (s x : Operand) (t : TypeId)
    (ho : o.op = .call { callee := .builtin .append, args := #[s, x], argTypes := #[t, t] })
    (ht : P.underlying t = some (.slice 2)) (hinfo : (P.info? 2).map (fun i => (i.zero, i.size, i.bytes)) = some (some (.int .i64 0), 1, 8))
    (hs : a.eval s = vA) (hx : a.eval x = .slice (some ⟨n, 0, none⟩) 1 1) (hl : (xs.length + 1) * 8 ≤ 140737488355328)
    (h : ∀ A c w1, TE w0 base g m9 xc b0 b2 u0 u1 (.slice A (xs.length + 1) c) vV (xs ++ [p]) ys w1 → (∀ n' p', Lt1 n' p' vA vV W → Lt1 n' p' (.slice A (xs.length + 1) c) vV w1) → Kc (a.put o.dst (.slice A (xs.length + 1) c)) w1) :
    if Region.wanted o (yielded ops a.tmps) = true then Oper.wp P o a W Kc Q else Kc (a.put o.dst undef) W := by
  refine Kd.R_append_rows_step (Kd.int .i64) (Rr := (Kd.int .i64).K W) (w0 := w0) base hw s x t 2 _ 8 ho ht hinfo rfl (by decide) (by decide) vA xs [p] (some ⟨n, 0, none⟩) 1 1 (fun k => some k ≠ vV.ownBlock) (fun _ => False) hs hx HT.rA HL.C (fun _ _ q => q) (fun _ q => q.elim) (fun k hk q => by have := Kd.R_lt HT.rV k q.symm; omega) HT.bel HT.size hl (fun v1 w1 h1 h2 h3 h4 => ?_)
  obtain ⟨A1, c1, hv⟩ := Kd.R_slice h1
  rw [List.length_append, List.length_singleton] at hv
  subst hv
  have hne : ∀ k, vA.ownBlock = some k → some k ≠ vV.ownBlock := fun k hk => by obtain ⟨q1, _⟩ := HT.rA; exact q1 k hk
  have hown : ∀ k, (Value.slice A1 (xs.length + 1) c1).ownBlock = some k → vA.ownBlock = some k ∨ W.heap.size ≤ k := fun k hk => by
    rcases h4 with h4 | ⟨b, h4, h5⟩
    · left; rw [← h4]; exact hk
    · right; rw [hk] at h4; injection h4 with h4; omega
  refine h A1 c1 w1 ⟨?_, h1, ?_, h2, HT.bg, blk_grown HT.ex h3 (Kd.R_ne HT.rA HT.ex (by decide))⟩ (fun n' p' L => ⟨?_, ?_, L.nV⟩)
  · exact blk_grown HT.blk h3 (Kd.R_ne HT.rA HT.blk (by decide))
  · have hb := Kd.R_mono (Kd.R_grown (Kd.R_bound HT.rV) h3 (fun k hk => fun q => hk.1 q)) (fun k hk => hk)
    refine Kd.R_mono hb (fun k hk q => ?_)
    rcases hown k q.symm with h6 | h6
    · exact hk.1 h6.symm
    · have := hk.2.2.1; omega
  · exact blk_grown L.blk h3 L.nA
  · intro q
    rcases hown n' q.symm with h6 | h6
    · exact L.nA h6.symm
    · have := blk_lt L.blk; omega
theorem TE.appV {w0 W : World} {base g n : Nat} {m9 : Nat} {xc : Array Value} {b0 b2 u0 u1 vA vV : Value} {xs ys : List Int} {p : Int} (HT : TE w0 base g m9 xc b0 b2 u0 u1 vA vV xs ys W) (HL : Lt1 n p vA vV W) (hw : Region.wanted o (yielded ops a.tmps) = true) (s x : Operand) (t : TypeId)
    (ho : o.op = .call { callee := .builtin .append, args := #[s, x], argTypes := #[t, t] })
    (ht : P.underlying t = some (.slice 2)) (hinfo : (P.info? 2).map (fun i => (i.zero, i.size, i.bytes)) = some (some (.int .i64 0), 1, 8))
    (hs : a.eval s = vV) (hx : a.eval x = .slice (some ⟨n, 0, none⟩) 1 1) (hl : (ys.length + 1) * 8 ≤ 140737488355328)
    (h : ∀ A c w1, TE w0 base g m9 xc b0 b2 u0 u1 vA (.slice A (ys.length + 1) c) xs (ys ++ [p]) w1 → (∀ n' p', Lt1 n' p' vA vV W → Lt1 n' p' vA (.slice A (ys.length + 1) c) w1) → Kc (a.put o.dst (.slice A (ys.length + 1) c)) w1) :
    if Region.wanted o (yielded ops a.tmps) = true then Oper.wp P o a W Kc Q else Kc (a.put o.dst undef) W :=
  TE.appA HT.swap HL.swap hw s x t ho ht hinfo hs hx hl (fun A c w1 h1 h2 => h A c w1 h1.swap (fun n' p' L => (h2 n' p' L.swap).swap))
end
theorem TE.lit {w0 z : World} {base g : Nat} {m9 : Nat} {xc : Array Value} {b0 b2 u0 u1 vA vV : Value} {xs ys : List Int} (h : TE w0 base g m9 xc b0 b2 u0 u1 vA vV xs ys z) (p : Int) : Lt1 z.heap.size p vA vV (z.alloc (.cells #[.int .i64 p] 2)) :=
  ⟨heap_alloc_new z _, R_new_ne h.rA, R_new_ne h.rV⟩
theorem TE.of {w0 z : World} {base g : Nat} {m9 : Nat} {xc : Array Value} {b0 b2 u0 u1 vA vV : Value} {xs ys : List Int} (h : TD w0 base g b0 b2 u0 u1 vA vV xs ys z) (hx : z.heap[m9]? = some (.cells xc 140 (0, 0))) : TE w0 base g m9 xc b0 b2 u0 u1 vA vV xs ys z := ⟨h.blk, h.rA, h.rV, h.bel, h.bg, hx⟩
theorem TE.to {w0 z : World} {base g : Nat} {m9 : Nat} {xc : Array Value} {b0 b2 u0 u1 vA vV : Value} {xs ys : List Int} (h : TE w0 base g m9 xc b0 b2 u0 u1 vA vV xs ys z) : TD w0 base g b0 b2 u0 u1 vA vV xs ys z := ⟨h.blk, h.rA, h.rV, h.bel, h.bg⟩
end Go.Proofs.Ytoigekmdicepnaa
