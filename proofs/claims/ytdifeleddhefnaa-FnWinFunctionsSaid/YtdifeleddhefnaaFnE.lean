/- Contracts: whether two functions on windows are the same. -/
import Derived.Test.YtdifeleddhefnaaFn
set_option linter.unusedVariables false
set_option linter.unusedSimpArgs false
namespace Go.Proofs.Ytdifeleddhefnaa
open Go.RowKit Go.Proofs.YtdifeleddhefnaaW.PrintWords

theorem mul_beq (a b : Int) : (a * 1000000 == b * 1000000) = (a == b) := by
  by_cases h : a = b
  · subst h; rw [beq_self_eq_true, beq_self_eq_true]
  · have : ¬ a * 1000000 = b * 1000000 := by omega
    rw [beq_eq_false_iff_ne.mpr this, beq_eq_false_iff_ne.mpr h]
/-- Two functions on windows are the same: their kinds, and the numbers that the kind has. -/
def eqFn (f1 f2 : WF) : Bool := f1.k == f2.k && (if f1.k = 1 then f1.sz == f2.sz else if f1.k = 2 then f1.pd == f2.pd && f1.sz == f2.sz else if f1.k = 3 then f1.gp == f2.gp else true)
theorem equals_any (g1 g2 : Nat) (f1 f2 : WF) (r1 : 0 ≤ f1.k ∧ f1.k ≤ 3) (r2 : 0 ≤ f2.k ∧ f2.k ≤ 3) (w : World) (h1 : w.heap[g1]? = some (.cells f1.cells 111 (0, 0))) (h2 : w.heap[g2]? = some (.cells f2.cells 111 (0, 0))) :
    Calls Try.prog 62 #[.pointer (some ⟨g1, 0, none⟩), .pointer (some ⟨g2, 0, none⟩)] w fun e w' => e = .returned (.bool (eqFn f1 f2)) ∧ Drawn0 w w' := by
  obtain ⟨k1, sz1, pd1, gp1⟩ := f1
  obtain ⟨k2, sz2, pd2, gp2⟩ := f2
  simp only at r1 r2
  rcases (show k1 = 0 ∨ k1 = 1 ∨ k1 = 2 ∨ k1 = 3 by omega) with rfl | rfl | rfl | rfl <;>
  rcases (show k2 = 0 ∨ k2 = 1 ∨ k2 = 2 ∨ k2 = 3 by omega) with rfl | rfl | rfl | rfl
  · exact (q62_GG g1 g2 _ _ _ _ _ _ w h1 h2).mono fun e w' ⟨he, hd⟩ => ⟨he.trans (ret_bool (by simp [eqFn, mul_beq])), hd⟩
  · exact (q62_GF g1 g2 _ _ _ _ _ _ w h1 h2).mono fun e w' ⟨he, hd⟩ => ⟨he.trans (ret_bool (by simp [eqFn, mul_beq])), hd⟩
  · exact (q62_GL g1 g2 _ _ _ _ _ _ w h1 h2).mono fun e w' ⟨he, hd⟩ => ⟨he.trans (ret_bool (by simp [eqFn, mul_beq])), hd⟩
  · exact (q62_GE g1 g2 _ _ _ _ _ _ w h1 h2).mono fun e w' ⟨he, hd⟩ => ⟨he.trans (ret_bool (by simp [eqFn, mul_beq])), hd⟩
  · exact (q62_FG g1 g2 _ _ _ _ _ _ w h1 h2).mono fun e w' ⟨he, hd⟩ => ⟨he.trans (ret_bool (by simp [eqFn, mul_beq])), hd⟩
  · exact (q62_FF g1 g2 _ _ _ _ _ _ w h1 h2).mono fun e w' ⟨he, hd⟩ => ⟨he.trans (ret_bool (by simp [eqFn, mul_beq])), hd⟩
  · exact (q62_FL g1 g2 _ _ _ _ _ _ w h1 h2).mono fun e w' ⟨he, hd⟩ => ⟨he.trans (ret_bool (by simp [eqFn, mul_beq])), hd⟩
  · exact (q62_FE g1 g2 _ _ _ _ _ _ w h1 h2).mono fun e w' ⟨he, hd⟩ => ⟨he.trans (ret_bool (by simp [eqFn, mul_beq])), hd⟩
  · exact (q62_LG g1 g2 _ _ _ _ _ _ w h1 h2).mono fun e w' ⟨he, hd⟩ => ⟨he.trans (ret_bool (by simp [eqFn, mul_beq])), hd⟩
  · exact (q62_LF g1 g2 _ _ _ _ _ _ w h1 h2).mono fun e w' ⟨he, hd⟩ => ⟨he.trans (ret_bool (by simp [eqFn, mul_beq])), hd⟩
  · exact (q62_LL g1 g2 _ _ _ _ _ _ w h1 h2).mono fun e w' ⟨he, hd⟩ => ⟨he.trans (ret_bool (by simp [eqFn, mul_beq])), hd⟩
  · exact (q62_LE g1 g2 _ _ _ _ _ _ w h1 h2).mono fun e w' ⟨he, hd⟩ => ⟨he.trans (ret_bool (by simp [eqFn, mul_beq])), hd⟩
  · exact (q62_EG g1 g2 _ _ _ _ _ _ w h1 h2).mono fun e w' ⟨he, hd⟩ => ⟨he.trans (ret_bool (by simp [eqFn, mul_beq])), hd⟩
  · exact (q62_EF g1 g2 _ _ _ _ _ _ w h1 h2).mono fun e w' ⟨he, hd⟩ => ⟨he.trans (ret_bool (by simp [eqFn, mul_beq])), hd⟩
  · exact (q62_EL g1 g2 _ _ _ _ _ _ w h1 h2).mono fun e w' ⟨he, hd⟩ => ⟨he.trans (ret_bool (by simp [eqFn, mul_beq])), hd⟩
  · exact (q62_EE g1 g2 _ _ _ _ _ _ w h1 h2).mono fun e w' ⟨he, hd⟩ => ⟨he.trans (ret_bool (by simp [eqFn, mul_beq])), hd⟩
/-- What a call of 'WinFnEqual' has boxed. -/
def BF (k1 sz1 pd1 gp1 k2 sz2 pd2 gp2 : Int) (w z : World) : Prop := z.heap[w.heap.size]? = some (.cells #[.int .u8 k1, .int .i64 sz1, .int .i64 pd1, .int .i64 gp1] 30 (0, 0)) ∧ z.heap[w.heap.size + 1]? = some (.cells #[.int .u8 k2, .int .i64 sz2, .int .i64 pd2, .int .i64 gp2] 30 (0, 0)) ∧ Below w.heap.size w z
theorem BF.all {k1 sz1 pd1 gp1 k2 sz2 pd2 gp2 : Int} {w z : World} (h : BF k1 sz1 pd1 gp1 k2 sz2 pd2 gp2 w z) : z.cell? ⟨w.heap.size, 0, none⟩ = some (.int .u8 k1) ∧ z.cell? ⟨w.heap.size, 1, none⟩ = some (.int .i64 sz1) ∧ z.cell? ⟨w.heap.size, 2, none⟩ = some (.int .i64 pd1) ∧ z.cell? ⟨w.heap.size, 3, none⟩ = some (.int .i64 gp1) ∧ z.cell? ⟨w.heap.size + 1, 0, none⟩ = some (.int .u8 k2) ∧ z.cell? ⟨w.heap.size + 1, 1, none⟩ = some (.int .i64 sz2) ∧ z.cell? ⟨w.heap.size + 1, 2, none⟩ = some (.int .i64 pd2) ∧ z.cell? ⟨w.heap.size + 1, 3, none⟩ = some (.int .i64 gp2) ∧ Aside0 (BF k1 sz1 pd1 gp1 k2 sz2 pd2 gp2 w z) :=
  ⟨(blk_cell h.1 0).trans rfl, (blk_cell h.1 1).trans rfl, (blk_cell h.1 2).trans rfl, (blk_cell h.1 3).trans rfl, (blk_cell h.2.1 0).trans rfl, (blk_cell h.2.1 1).trans rfl, (blk_cell h.2.1 2).trans rfl, (blk_cell h.2.1 3).trans rfl, ⟨h⟩⟩
theorem BF.step {k1 sz1 pd1 gp1 k2 sz2 pd2 gp2 : Int} {w z z' : World} (hb : Below z.heap.size z z') (h : z.cell? ⟨w.heap.size, 0, none⟩ = some (.int .u8 k1) ∧ z.cell? ⟨w.heap.size, 1, none⟩ = some (.int .i64 sz1) ∧ z.cell? ⟨w.heap.size, 2, none⟩ = some (.int .i64 pd1) ∧ z.cell? ⟨w.heap.size, 3, none⟩ = some (.int .i64 gp1) ∧ z.cell? ⟨w.heap.size + 1, 0, none⟩ = some (.int .u8 k2) ∧ z.cell? ⟨w.heap.size + 1, 1, none⟩ = some (.int .i64 sz2) ∧ z.cell? ⟨w.heap.size + 1, 2, none⟩ = some (.int .i64 pd2) ∧ z.cell? ⟨w.heap.size + 1, 3, none⟩ = some (.int .i64 gp2) ∧ Aside0 (BF k1 sz1 pd1 gp1 k2 sz2 pd2 gp2 w z)) : z'.cell? ⟨w.heap.size, 0, none⟩ = some (.int .u8 k1) ∧ z'.cell? ⟨w.heap.size, 1, none⟩ = some (.int .i64 sz1) ∧ z'.cell? ⟨w.heap.size, 2, none⟩ = some (.int .i64 pd1) ∧ z'.cell? ⟨w.heap.size, 3, none⟩ = some (.int .i64 gp1) ∧ z'.cell? ⟨w.heap.size + 1, 0, none⟩ = some (.int .u8 k2) ∧ z'.cell? ⟨w.heap.size + 1, 1, none⟩ = some (.int .i64 sz2) ∧ z'.cell? ⟨w.heap.size + 1, 2, none⟩ = some (.int .i64 pd2) ∧ z'.cell? ⟨w.heap.size + 1, 3, none⟩ = some (.int .i64 gp2) ∧ Aside0 (BF k1 sz1 pd1 gp1 k2 sz2 pd2 gp2 w z') :=
  BF.all ⟨blk_below h.2.2.2.2.2.2.2.2.out.1 hb, blk_below h.2.2.2.2.2.2.2.2.out.2.1 hb, below_then h.2.2.2.2.2.2.2.2.out.2.2 h.2.2.2.2.2.2.2.2.out.2.2.size hb⟩
set_option maxRecDepth 100000 in
set_option maxHeartbeats 4000000 in
theorem winFnEqual_any (k1 sz1 pd1 gp1 k2 sz2 pd2 gp2 : Int) (s1 : In9 sz1) (p1 : In9 pd1) (g1 : In9 gp1) (s2 : In9 sz2) (p2 : In9 pd2) (g2 : In9 gp2) (r1 : 0 ≤ k1 ∧ k1 ≤ 3) (r2 : 0 ≤ k2 ∧ k2 ≤ 3) (w : World) :
    Calls Try.prog 39 #[.agg #[.int .u8 k1, .int .i64 sz1, .int .i64 pd1, .int .i64 gp1], .agg #[.int .u8 k2, .int .i64 sz2, .int .i64 pd2, .int .i64 gp2]] w fun e w' => e = .returned (.bool (eqFn ⟨k1, sz1, pd1, gp1⟩ ⟨k2, sz2, pd2, gp2⟩)) ∧ Below w.heap.size w w' := by
  have A1 := Aside0.mk (And.intro s1 (And.intro p1 g1))
  have A2 := Aside0.mk (And.intro s2 (And.intro p2 g2))
  have R1 := Aside0.mk r1
  have R2 := Aside0.mk r2
  clear s1 p1 g1 s2 p2 g2 r1 r2
  have K0 : ((w.alloc (.cells #[.int .u8 k1, .int .i64 sz1, .int .i64 pd1, .int .i64 gp1] 30)).alloc (.cells #[.int .u8 k2, .int .i64 sz2, .int .i64 pd2, .int .i64 gp2] 30)).drew.cell? ⟨w.heap.size, 0, none⟩ = some (.int .u8 k1) ∧ ((w.alloc (.cells #[.int .u8 k1, .int .i64 sz1, .int .i64 pd1, .int .i64 gp1] 30)).alloc (.cells #[.int .u8 k2, .int .i64 sz2, .int .i64 pd2, .int .i64 gp2] 30)).drew.cell? ⟨w.heap.size, 1, none⟩ = some (.int .i64 sz1) ∧ ((w.alloc (.cells #[.int .u8 k1, .int .i64 sz1, .int .i64 pd1, .int .i64 gp1] 30)).alloc (.cells #[.int .u8 k2, .int .i64 sz2, .int .i64 pd2, .int .i64 gp2] 30)).drew.cell? ⟨w.heap.size, 2, none⟩ = some (.int .i64 pd1) ∧ ((w.alloc (.cells #[.int .u8 k1, .int .i64 sz1, .int .i64 pd1, .int .i64 gp1] 30)).alloc (.cells #[.int .u8 k2, .int .i64 sz2, .int .i64 pd2, .int .i64 gp2] 30)).drew.cell? ⟨w.heap.size, 3, none⟩ = some (.int .i64 gp1) ∧ ((w.alloc (.cells #[.int .u8 k1, .int .i64 sz1, .int .i64 pd1, .int .i64 gp1] 30)).alloc (.cells #[.int .u8 k2, .int .i64 sz2, .int .i64 pd2, .int .i64 gp2] 30)).drew.cell? ⟨w.heap.size + 1, 0, none⟩ = some (.int .u8 k2) ∧ ((w.alloc (.cells #[.int .u8 k1, .int .i64 sz1, .int .i64 pd1, .int .i64 gp1] 30)).alloc (.cells #[.int .u8 k2, .int .i64 sz2, .int .i64 pd2, .int .i64 gp2] 30)).drew.cell? ⟨w.heap.size + 1, 1, none⟩ = some (.int .i64 sz2) ∧ ((w.alloc (.cells #[.int .u8 k1, .int .i64 sz1, .int .i64 pd1, .int .i64 gp1] 30)).alloc (.cells #[.int .u8 k2, .int .i64 sz2, .int .i64 pd2, .int .i64 gp2] 30)).drew.cell? ⟨w.heap.size + 1, 2, none⟩ = some (.int .i64 pd2) ∧ ((w.alloc (.cells #[.int .u8 k1, .int .i64 sz1, .int .i64 pd1, .int .i64 gp1] 30)).alloc (.cells #[.int .u8 k2, .int .i64 sz2, .int .i64 pd2, .int .i64 gp2] 30)).drew.cell? ⟨w.heap.size + 1, 3, none⟩ = some (.int .i64 gp2) ∧ Aside0 (BF k1 sz1 pd1 gp1 k2 sz2 pd2 gp2 w ((w.alloc (.cells #[.int .u8 k1, .int .i64 sz1, .int .i64 pd1, .int .i64 gp1] 30)).alloc (.cells #[.int .u8 k2, .int .i64 sz2, .int .i64 pd2, .int .i64 gp2] 30)).drew) := BF.step (below_drew (Below.refl _ _)) (BF.all ⟨blk_alloc (heap_alloc_new w _) _, new2' w _ _, below_alloc (below_alloc (Below.refl _ _) _) _⟩)
  go_enter Try.func39, Try.ntmps39
  go_wp2_with fail
  go_region_held3 (fun z => z.cell? ⟨w.heap.size, 0, none⟩ = some (.int .u8 k1) ∧ z.cell? ⟨w.heap.size, 1, none⟩ = some (.int .i64 sz1) ∧ z.cell? ⟨w.heap.size, 2, none⟩ = some (.int .i64 pd1) ∧ z.cell? ⟨w.heap.size, 3, none⟩ = some (.int .i64 gp1) ∧ z.cell? ⟨w.heap.size + 1, 0, none⟩ = some (.int .u8 k2) ∧ z.cell? ⟨w.heap.size + 1, 1, none⟩ = some (.int .i64 sz2) ∧ z.cell? ⟨w.heap.size + 1, 2, none⟩ = some (.int .i64 pd2) ∧ z.cell? ⟨w.heap.size + 1, 3, none⟩ = some (.int .i64 gp2) ∧ Aside0 (BF k1 sz1 pd1 gp1 k2 sz2 pd2 gp2 w z)) (first | exact K | exact K0 | assumption)
    (first
    | (go_at_call 51; have hmark := HG1; refine (winFn_any ⟨_, _, _, _⟩ A2.out.1 A2.out.2.1 A2.out.2.2 _).mono ?_; rintro e_ w2 ⟨g2_, rfl, hg1, hg2, hb⟩; have K : w2.cell? ⟨w.heap.size, 0, none⟩ = some (.int .u8 k1) ∧ w2.cell? ⟨w.heap.size, 1, none⟩ = some (.int .i64 sz1) ∧ w2.cell? ⟨w.heap.size, 2, none⟩ = some (.int .i64 pd1) ∧ w2.cell? ⟨w.heap.size, 3, none⟩ = some (.int .i64 gp1) ∧ w2.cell? ⟨w.heap.size + 1, 0, none⟩ = some (.int .u8 k2) ∧ w2.cell? ⟨w.heap.size + 1, 1, none⟩ = some (.int .i64 sz2) ∧ w2.cell? ⟨w.heap.size + 1, 2, none⟩ = some (.int .i64 pd2) ∧ w2.cell? ⟨w.heap.size + 1, 3, none⟩ = some (.int .i64 gp2) ∧ Aside0 (BF k1 sz1 pd1 gp1 k2 sz2 pd2 gp2 w w2) := BF.step hb (by assumption); have HG2 := Aside0.mk hg2; have HG1' := Aside0.mk (blk_below HG1.out hb); clear hmark hg1 hg2 hb)
    | (go_at_call 51; refine (winFn_any ⟨_, _, _, _⟩ A1.out.1 A1.out.2.1 A1.out.2.2 _).mono ?_; rintro e_ w1 ⟨g1_, rfl, hg1, hg2, hb⟩; have K : w1.cell? ⟨w.heap.size, 0, none⟩ = some (.int .u8 k1) ∧ w1.cell? ⟨w.heap.size, 1, none⟩ = some (.int .i64 sz1) ∧ w1.cell? ⟨w.heap.size, 2, none⟩ = some (.int .i64 pd1) ∧ w1.cell? ⟨w.heap.size, 3, none⟩ = some (.int .i64 gp1) ∧ w1.cell? ⟨w.heap.size + 1, 0, none⟩ = some (.int .u8 k2) ∧ w1.cell? ⟨w.heap.size + 1, 1, none⟩ = some (.int .i64 sz2) ∧ w1.cell? ⟨w.heap.size + 1, 2, none⟩ = some (.int .i64 pd2) ∧ w1.cell? ⟨w.heap.size + 1, 3, none⟩ = some (.int .i64 gp2) ∧ Aside0 (BF k1 sz1 pd1 gp1 k2 sz2 pd2 gp2 w w1) := BF.step hb (by assumption); have HG1 := Aside0.mk hg2; clear hg1 hg2 hb)
    | (go_at_call 62; refine (equals_any _ _ ⟨k1, sz1, pd1, gp1⟩ ⟨k2, sz2, pd2, gp2⟩ R1.out R2.out _ HG1'.out HG2.out).mono ?_; rintro e_ w3 ⟨rfl, hd⟩; have K3 : w3.cell? ⟨w.heap.size, 0, none⟩ = some (.int .u8 k1) ∧ w3.cell? ⟨w.heap.size, 1, none⟩ = some (.int .i64 sz1) ∧ w3.cell? ⟨w.heap.size, 2, none⟩ = some (.int .i64 pd1) ∧ w3.cell? ⟨w.heap.size, 3, none⟩ = some (.int .i64 gp1) ∧ w3.cell? ⟨w.heap.size + 1, 0, none⟩ = some (.int .u8 k2) ∧ w3.cell? ⟨w.heap.size + 1, 1, none⟩ = some (.int .i64 sz2) ∧ w3.cell? ⟨w.heap.size + 1, 2, none⟩ = some (.int .i64 pd2) ∧ w3.cell? ⟨w.heap.size + 1, 3, none⟩ = some (.int .i64 gp2) ∧ Aside0 (BF k1 sz1 pd1 gp1 k2 sz2 pd2 gp2 w w3) := BF.step hd.below (by assumption); have K := K3; clear hd))
  all_goals
    go_wp2
    go_ret
    exact ⟨rfl, K3.2.2.2.2.2.2.2.2.out.2.2⟩
theorem eqFn_isF {f1 f2 : WF} (h1 : isF f1 = true) (h2 : isF f2 = true) (k1 : 0 ≤ f1.k) (k2 : 0 ≤ f2.k) : eqFn f1 f2 = decide (f1 = f2) := by
  obtain ⟨k, sz, pd, gp⟩ := f1
  obtain ⟨k', sz', pd', gp'⟩ := f2
  obtain ⟨a3, _, ag, ap⟩ := isF_gap h1
  obtain ⟨b3, _, bg, bp⟩ := isF_gap h2
  have asz := fun x y => isF_size h1 x y
  have bsz := fun x y => isF_size h2 x y
  simp only at k1 k2
  by_cases hk : k = k'
  · subst hk
    rcases (show k = 0 ∨ k = 1 ∨ k = 2 ∨ k = 3 by omega) with rfl | rfl | rfl | rfl
    · simp [eqFn, asz, ag, ap, bsz, bg, bp]
    · have e1 := ag (by decide); have e2 := ap (by decide); have e3 := bg (by decide); have e4 := bp (by decide)
      subst e1 e2 e3 e4
      by_cases h : sz = sz' <;> simp [eqFn, h]
    · have e1 := ag (by decide); have e3 := bg (by decide)
      subst e1 e3
      by_cases h : sz = sz' <;> by_cases h' : pd = pd' <;> simp [eqFn, h, h']
    · have e1 := asz (by decide) (by decide); have e2 := ap (by decide); have e3 := bsz (by decide) (by decide); have e4 := bp (by decide)
      subst e1 e2 e3 e4
      by_cases h : gp = gp' <;> simp [eqFn, h]
  · simp [eqFn, hk]
end Go.Proofs.Ytdifeleddhefnaa
