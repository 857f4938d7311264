/- Contracts of the statements' helpers on answers. -/
import Derived.Test.YtoigekmdicepnaaSf
set_option linter.unusedVariables false
set_option linter.unusedSimpArgs false
namespace Go.Proofs.Ytoigekmdicepnaa
open Go.RowKit Go.Proofs.YtoigekmdicepnaaW.PrintWords Go.Proofs.YtoigekmdicepnaaW.PrintLast Go.Proofs.YtoigekmdicepnaaW.PrintMore
open PFnMapState (S26 k26 S36 k36 k26_open k36_mkM k36_open z26 z36)

/-- The answers that are left: they were there in the world W1, and stay. -/
def AV (W1 w : World) (a : Nat) (xs : List S36) : Prop := ∃ A c, w.heap[a]? = some (.cells #[.slice A xs.length c, .bool true] 32 (0, 0)) ∧ Kd.C k36 W1 A xs.length xs ∧ xs.length ≤ c ∧ Below W1.heap.size W1 w ∧ W1.heap.size ≤ a
theorem AV.below {W1 w w' : World} {a : Nat} {xs : List S36} (h : AV W1 w a xs) (hb : Below w.heap.size w w') : AV W1 w' a xs := by
  obtain ⟨A, c, h1, h2, h3, h4, h5⟩ := h
  exact ⟨A, c, blk_below h1 hb, h2, h3, below_then h4 h4.size hb, h5⟩
set_option maxRecDepth 100000 in
set_option maxHeartbeats 1000000 in
theorem next_any (W1 w : World) (a : Nat) (x : S36) (xs : List S36) (h : AV W1 w a (x :: xs)) (hl : xs.length ≤ 1000000) :
    Calls Try.prog 15 #[.pointer (some ⟨a, 0, none⟩)] w fun e w' => ∃ A1 c1 A2 c2 A3 c3, e = .returned (.agg #[.bool x.f0, .slice A1 x.f1.length c1, .slice A2 x.f2.length c2, .slice A3 x.f3.length c3]) ∧ (x.f1.length ≤ c1 ∧ (Kd.int .i64).C W1 A1 x.f1.length x.f1) ∧ (x.f2.length ≤ c2 ∧ Kd.string.C W1 A2 x.f2.length x.f2) ∧ (x.f3.length ≤ c3 ∧ (Kd.int .i64).C W1 A3 x.f3.length x.f3) ∧ AV W1 w' a xs := by
  obtain ⟨A, c, h1, h2, h3, h4, h5⟩ := h
  obtain ⟨ad, A1, c1, A2, c2, A3, c3, e0, x0, x1, x2, x3, q1, g1, q2, g2, q3, g3⟩ := PFnMapState.at_T36 h2 0 (by omega) (by simp)
  subst e0
  simp only [Int.toNat_zero, Nat.zero_mul, Addr.add_zero', PFnMapState.rd_T36, List.getD_cons_zero] at x0 x1 x2 x3 q1 g1 q2 g2 q3 g3
  have H1 := Aside0.mk h1
  simp only [List.length_cons] at h1 h2 h3
  have y0 := fun o => (blk_cell (blk_alloc h1 o) 0).trans (rfl : _ = some (Value.slice (some ad) (xs.length + 1) c))
  have y1 := fun o o2 => (blk_cell (blk_alloc (blk_alloc h1 o) o2) 0).trans (rfl : _ = some (Value.slice (some ad) (xs.length + 1) c))
  have fz := fun o o2 => blk_frozen (blk_alloc (blk_alloc h1 o) o2) 0
  have z0 := fun o => pw_cell_below (below_alloc (Below.refl w.heap.size w) o) ((h4.cell (World.block_lt_of_cell? W1 _ x0)).trans x0)
  have z1 := fun o => pw_cell_below (below_alloc (Below.refl w.heap.size w) o) ((h4.cell (World.block_lt_of_cell? W1 _ x1)).trans x1)
  have z2 := fun o => pw_cell_below (below_alloc (Below.refl w.heap.size w) o) ((h4.cell (World.block_lt_of_cell? W1 _ x2)).trans x2)
  have z3 := fun o => pw_cell_below (below_alloc (Below.refl w.heap.size w) o) ((h4.cell (World.block_lt_of_cell? W1 _ x3)).trans x3)
  have hq1 : ((xs.length : Int) + 1 == 0) = false := beq_eq_false_iff_ne.2 (by omega)
  have hq2 : (0 : Int) < (xs.length : Int) + 1 := by omega
  have H2 := Aside0.mk h2
  have H3 := Aside0.mk h3
  have H4 := Aside0.mk h4
  have H5 := Aside0.mk h5
  have G := Aside0.mk (And.intro q1 (And.intro g1 (And.intro q2 (And.intro g2 (And.intro q3 g3)))))
  have n1 : a ≠ w.heap.size := by have := blk_lt h1; omega
  have n2 : a ≠ w.heap.size + 1 := by have := blk_lt h1; omega
  have n3 := n1.symm
  have n4 := n2.symm
  clear hl h1 h2 h3 h4 h5 x0 x1 x2 x3 q1 g1 q2 g2 q3 g3
  have HD : Kd.C k36 W1 (if c = 1 then some ad else some (ad.add 4)) xs.length xs := by
    have h := Kd.C_drop (k := k36) (c := c) (m := 1) H2.out (by simp) (by simpa using H3.out)
    have e : (if c = 1 then some ad else some (ad.add 4)) = (if c = 1 then some ad else Option.map (fun x => x.add (1 * k36.sz)) (some ad)) := rfl
    rw [e]
    simpa using h
  have HDA := Aside0.mk HD
  clear HD
  have HBA := Aside0.mk (below_then H4.out H4.out.size (below_alloc (below_alloc (Below.refl w.heap.size w) (.cells #[.bool false, .slice none 0 0, .slice none 0 0, .slice none 0 0] 36)) (.cells #[.bool x.f0, .slice A1 x.f1.length c1, .slice A2 x.f2.length c2, .slice A3 x.f3.length c3] 36)))
  by_cases hc1 : c = 1
  · have HD2 := Aside0.mk (show Kd.C k36 W1 (some ad) xs.length xs by have h := HDA.out; rw [if_pos hc1] at h; exact h)
    have HL2 := Aside0.mk (show xs.length ≤ 0 by have := H3.out; omega)
    subst hc1
    clear HDA
    go_enter Try.func15, Try.ntmps15
    go_wp2
    go_returns
    refine ⟨A1, c1, A2, c2, A3, c3, rfl, ⟨G.out.1, G.out.2.1⟩, ⟨G.out.2.2.1, G.out.2.2.2.1⟩, ⟨G.out.2.2.2.2.1, G.out.2.2.2.2.2⟩, ⟨_, _, ?_, HD2.out, HL2.out, ?_, H5.out⟩⟩
    · exact blk_far (p := ⟨w.heap.size, 3, none⟩) (blk_far (p := ⟨w.heap.size, 2, none⟩) (blk_far (p := ⟨w.heap.size, 1, none⟩) (blk_far (p := ⟨w.heap.size, 0, none⟩) (blk_set (blk_alloc (blk_alloc H1.out _) _) 0 _) n1 _) n1 _) n1 _) n1 _
    · exact (((((HBA.out.setCell (p := ⟨a, 0, none⟩) H5.out _).setCell (p := ⟨w.heap.size, 0, none⟩) H4.out.size _).setCell (p := ⟨w.heap.size, 1, none⟩) H4.out.size _).setCell (p := ⟨w.heap.size, 2, none⟩) H4.out.size _).setCell (p := ⟨w.heap.size, 3, none⟩) H4.out.size _)
  · have HD2 := Aside0.mk (show Kd.C k36 W1 (some (ad.add 4)) xs.length xs by have h := HDA.out; rw [if_neg hc1] at h; exact h)
    have HL2 := Aside0.mk (show xs.length ≤ c - 1 by have := H3.out; omega)
    clear HDA
    go_enter Try.func15, Try.ntmps15
    go_wp2
    go_returns
    refine ⟨A1, c1, A2, c2, A3, c3, rfl, ⟨G.out.1, G.out.2.1⟩, ⟨G.out.2.2.1, G.out.2.2.2.1⟩, ⟨G.out.2.2.2.2.1, G.out.2.2.2.2.2⟩, ⟨_, _, ?_, HD2.out, HL2.out, ?_, H5.out⟩⟩
    · exact blk_far (p := ⟨w.heap.size, 3, none⟩) (blk_far (p := ⟨w.heap.size, 2, none⟩) (blk_far (p := ⟨w.heap.size, 1, none⟩) (blk_far (p := ⟨w.heap.size, 0, none⟩) (blk_set (blk_alloc (blk_alloc H1.out _) _) 0 _) n1 _) n1 _) n1 _) n1 _
    · exact (((((HBA.out.setCell (p := ⟨a, 0, none⟩) H5.out _).setCell (p := ⟨w.heap.size, 0, none⟩) H4.out.size _).setCell (p := ⟨w.heap.size, 1, none⟩) H4.out.size _).setCell (p := ⟨w.heap.size, 2, none⟩) H4.out.size _).setCell (p := ⟨w.heap.size, 3, none⟩) H4.out.size _)

set_option maxRecDepth 100000 in
theorem check_any (W1 w : World) (a : Nat) (xs : List S36) (h : AV W1 w a xs) :
    Calls Try.prog 16 #[.pointer (some ⟨a, 0, none⟩), .bool true] w fun e w' => e = .returned (.tuple #[]) ∧ AV W1 w' a xs := by
  obtain ⟨A, c, h1, h2, h3, h4, h5⟩ := h
  have y1 := (blk_cell h1 1).trans (rfl : _ = some (Value.bool true))
  have f1 := blk_frozen h1 1
  have H1 := Aside0.mk (blk_set h1 1 (.bool true))
  have H2 := Aside0.mk h2
  have H3 := Aside0.mk h3
  have H4 := Aside0.mk h4
  have H5 := Aside0.mk h5
  clear h1 h2 h3 h4 h5
  go_enter Try.func16, Try.ntmps16
  go_wp2
  go_end0
  exact ⟨rfl, _, _, H1.out, H2.out, H3.out, H4.out.setCell (p := ⟨a, 1, none⟩) H5.out _, H5.out⟩
set_option maxRecDepth 100000 in
theorem end_any (W1 w : World) (a : Nat) (h : AV W1 w a []) :
    Calls Try.prog 18 #[.pointer (some ⟨a, 0, none⟩)] w fun e w' => e = .returned (.bool true) ∧ w = w' := by
  obtain ⟨A, c, h1, h2, h3, h4, h5⟩ := h
  have y0 := (blk_cell h1 0).trans (rfl : _ = some (Value.slice A 0 c))
  have y1 := (blk_cell h1 1).trans (rfl : _ = some (Value.bool true))
  clear h1 h2 h3 h4 h5
  go_enter Try.func18, Try.ntmps18
  go_wp2
  go_ret
  exact ⟨rfl, rfl⟩
end Go.Proofs.Ytoigekmdicepnaa
