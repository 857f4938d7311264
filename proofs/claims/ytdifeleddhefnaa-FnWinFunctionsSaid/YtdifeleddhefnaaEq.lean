/- The contract: whether two windows are the same. -/
import Derived.Test.YtdifeleddhefnaaMx
import Derived.Deep.RegionHeld3
set_option linter.unusedVariables false
set_option linter.unusedSimpArgs false
namespace Go.Proofs.Ytdifeleddhefnaa
open Go.RowKit Go.Proofs.YtdifeleddhefnaaW.PrintWords

theorem sameW_true (s e : Int) (y : Sp) : y.g = sameW ⟨true, s, e⟩ y := by
  obtain ⟨g, s', e'⟩ := y
  cases g <;> simp [sameW, nz]
theorem sameW_false (s e : Int) (y : Sp) : (!y.g && (s == y.s && e == y.e)) = sameW ⟨false, s, e⟩ y := by
  obtain ⟨g, s', e'⟩ := y
  cases g
  · by_cases h1 : s = s' <;> by_cases h2 : e = e' <;> simp [sameW, nz, h1, h2]
  · simp [sameW, nz]
/-- Two boxed windows, as a call has them. -/
def Bw (x y : Sp) (w z : World) : Prop := z.heap[w.heap.size]? = some (.cells #[.bool x.g, .int .i64 x.s, .int .i64 x.e] 36 (0, 0)) ∧ z.heap[w.heap.size + 1]? = some (.cells #[.bool y.g, .int .i64 y.s, .int .i64 y.e] 36 (0, 0)) ∧ Below w.heap.size w z
theorem Bw.all {x y : Sp} {w z : World} (h : Bw x y w z) : z.cell? ⟨w.heap.size, 0, none⟩ = some (.bool x.g) ∧ z.cell? ⟨w.heap.size, 1, none⟩ = some (.int .i64 x.s) ∧ z.cell? ⟨w.heap.size, 2, none⟩ = some (.int .i64 x.e) ∧ z.cell? ⟨w.heap.size + 1, 0, none⟩ = some (.bool y.g) ∧ z.cell? ⟨w.heap.size + 1, 1, none⟩ = some (.int .i64 y.s) ∧ z.cell? ⟨w.heap.size + 1, 2, none⟩ = some (.int .i64 y.e) ∧ Aside0 (Bw x y w z) :=
  ⟨(blk_cell h.1 0).trans rfl, (blk_cell h.1 1).trans rfl, (blk_cell h.1 2).trans rfl, (blk_cell h.2.1 0).trans rfl, (blk_cell h.2.1 1).trans rfl, (blk_cell h.2.1 2).trans rfl, ⟨h⟩⟩
theorem Bw.step {x y : Sp} {w z z' : World} (h : Bw x y w z) (hb : Below z.heap.size z z') : Bw x y w z' :=
  ⟨blk_below h.1 hb, blk_below h.2.1 hb, below_then h.2.2 h.2.2.size hb⟩
theorem na_false (s e : Int) : ∀ W : World, (nilAhead 258 107 (.agg #[.int .i64 s, .int .i64 e]) "Equals").run Try.prog W = .ok (some false) W := fun _ => by kernel_rfl
theorem na_true : ∀ W : World, (nilAhead 258 105 (.agg #[]) "Equals").run Try.prog W = .ok (some false) W := fun _ => by kernel_rfl
theorem Bw.step2 {x y : Sp} {w z z' : World} (hb : Below z.heap.size z z') (h : z.cell? ⟨w.heap.size, 0, none⟩ = some (.bool x.g) ∧ z.cell? ⟨w.heap.size, 1, none⟩ = some (.int .i64 x.s) ∧ z.cell? ⟨w.heap.size, 2, none⟩ = some (.int .i64 x.e) ∧ z.cell? ⟨w.heap.size + 1, 0, none⟩ = some (.bool y.g) ∧ z.cell? ⟨w.heap.size + 1, 1, none⟩ = some (.int .i64 y.s) ∧ z.cell? ⟨w.heap.size + 1, 2, none⟩ = some (.int .i64 y.e) ∧ Aside0 (Bw x y w z)) : z'.cell? ⟨w.heap.size, 0, none⟩ = some (.bool x.g) ∧ z'.cell? ⟨w.heap.size, 1, none⟩ = some (.int .i64 x.s) ∧ z'.cell? ⟨w.heap.size, 2, none⟩ = some (.int .i64 x.e) ∧ z'.cell? ⟨w.heap.size + 1, 0, none⟩ = some (.bool y.g) ∧ z'.cell? ⟨w.heap.size + 1, 1, none⟩ = some (.int .i64 y.s) ∧ z'.cell? ⟨w.heap.size + 1, 2, none⟩ = some (.int .i64 y.e) ∧ Aside0 (Bw x y w z') := Bw.all (Bw.step h.2.2.2.2.2.2.out hb)
theorem new2' (w : World) (o1 o2 : Obj) : ((w.alloc o1).alloc o2).heap[w.heap.size + 1]? = some o2 := by have := heap_alloc_new (w.alloc o1) o2; rwa [World.size_alloc] at this
set_option maxRecDepth 100000 in
set_option maxHeartbeats 400000 in
theorem winEqual_any (x y : Sp) (w : World) : Calls Try.prog 37 #[.agg #[.bool x.g, .int .i64 x.s, .int .i64 x.e], .agg #[.bool y.g, .int .i64 y.s, .int .i64 y.e]] w fun e w' => e = .returned (.bool (sameW x y)) ∧ Below w.heap.size w w' := by
  obtain ⟨g, s, e⟩ := x
  obtain ⟨g', s', e'⟩ := y
  cases g
  · have q := Aside0.mk (sameW_false s e ⟨g', s', e'⟩)
    have hna := na_false s e
    have K0 : ((w.alloc (.cells #[.bool false, .int .i64 s, .int .i64 e] 36)).alloc (.cells #[.bool g', .int .i64 s', .int .i64 e'] 36)).drew.cell? ⟨w.heap.size, 0, none⟩ = some (.bool false) ∧ ((w.alloc (.cells #[.bool false, .int .i64 s, .int .i64 e] 36)).alloc (.cells #[.bool g', .int .i64 s', .int .i64 e'] 36)).drew.cell? ⟨w.heap.size, 1, none⟩ = some (.int .i64 s) ∧ ((w.alloc (.cells #[.bool false, .int .i64 s, .int .i64 e] 36)).alloc (.cells #[.bool g', .int .i64 s', .int .i64 e'] 36)).drew.cell? ⟨w.heap.size, 2, none⟩ = some (.int .i64 e) ∧ ((w.alloc (.cells #[.bool false, .int .i64 s, .int .i64 e] 36)).alloc (.cells #[.bool g', .int .i64 s', .int .i64 e'] 36)).drew.cell? ⟨w.heap.size + 1, 0, none⟩ = some (.bool g') ∧ ((w.alloc (.cells #[.bool false, .int .i64 s, .int .i64 e] 36)).alloc (.cells #[.bool g', .int .i64 s', .int .i64 e'] 36)).drew.cell? ⟨w.heap.size + 1, 1, none⟩ = some (.int .i64 s') ∧ ((w.alloc (.cells #[.bool false, .int .i64 s, .int .i64 e] 36)).alloc (.cells #[.bool g', .int .i64 s', .int .i64 e'] 36)).drew.cell? ⟨w.heap.size + 1, 2, none⟩ = some (.int .i64 e') ∧ Aside0 (Bw ⟨false, s, e⟩ ⟨g', s', e'⟩ w ((w.alloc (.cells #[.bool false, .int .i64 s, .int .i64 e] 36)).alloc (.cells #[.bool g', .int .i64 s', .int .i64 e'] 36)).drew) := Bw.all (x := ⟨false, s, e⟩) (y := ⟨g', s', e'⟩) (Bw.step ⟨by rw [heap_alloc_old _ _ (by simp)]; exact heap_alloc_new w _, new2' w _ _, below_alloc (below_alloc (Below.refl w.heap.size w) _) _⟩ (below_drew (Below.refl _ _)))
    go_enter Try.func37, Try.ntmps37
    go_wp2_with fail
    go_region_held3 (fun z => z.cell? ⟨w.heap.size, 0, none⟩ = some (.bool false) ∧ z.cell? ⟨w.heap.size, 1, none⟩ = some (.int .i64 s) ∧ z.cell? ⟨w.heap.size, 2, none⟩ = some (.int .i64 e) ∧ z.cell? ⟨w.heap.size + 1, 0, none⟩ = some (.bool g') ∧ z.cell? ⟨w.heap.size + 1, 1, none⟩ = some (.int .i64 s') ∧ z.cell? ⟨w.heap.size + 1, 2, none⟩ = some (.int .i64 e') ∧ Aside0 (Bw ⟨false, s, e⟩ ⟨g', s', e'⟩ w z)) (first | exact K | exact K0 | assumption)
      (first
      | (go_at_call 60; refine (win_any ⟨_, _, _⟩ _).mono ?_; rintro e_ w1 ⟨rfl, hb⟩; have K : w1.cell? ⟨w.heap.size, 0, none⟩ = some (.bool false) ∧ w1.cell? ⟨w.heap.size, 1, none⟩ = some (.int .i64 s) ∧ w1.cell? ⟨w.heap.size, 2, none⟩ = some (.int .i64 e) ∧ w1.cell? ⟨w.heap.size + 1, 0, none⟩ = some (.bool g') ∧ w1.cell? ⟨w.heap.size + 1, 1, none⟩ = some (.int .i64 s') ∧ w1.cell? ⟨w.heap.size + 1, 2, none⟩ = some (.int .i64 e') ∧ Aside0 (Bw ⟨false, s, e⟩ ⟨g', s', e'⟩ w w1) := Bw.step2 (x := ⟨false, s, e⟩) (y := ⟨g', s', e'⟩) hb (by assumption); clear hb; try rw [show ifv ⟨false, s, e⟩ = .iface 107 (.agg #[.int .i64 s, .int .i64 e]) from rfl])
      | (go_at_call 119; refine (iEq_any s e ⟨g', s', e'⟩ _).mono ?_; rintro e_ w3 ⟨rfl, hb⟩; have K3 : w3.cell? ⟨w.heap.size, 0, none⟩ = some (.bool false) ∧ w3.cell? ⟨w.heap.size, 1, none⟩ = some (.int .i64 s) ∧ w3.cell? ⟨w.heap.size, 2, none⟩ = some (.int .i64 e) ∧ w3.cell? ⟨w.heap.size + 1, 0, none⟩ = some (.bool g') ∧ w3.cell? ⟨w.heap.size + 1, 1, none⟩ = some (.int .i64 s') ∧ w3.cell? ⟨w.heap.size + 1, 2, none⟩ = some (.int .i64 e') ∧ Aside0 (Bw ⟨false, s, e⟩ ⟨g', s', e'⟩ w w3) := Bw.step2 (x := ⟨false, s, e⟩) (y := ⟨g', s', e'⟩) hb (by assumption); clear hb; have K := K3))
    all_goals
      go_wp2
      go_ret
      exact ⟨ret_bool q.out, K3.2.2.2.2.2.2.out.2.2⟩
  · have q := Aside0.mk (sameW_true s e ⟨g', s', e'⟩)
    have hna := na_true
    have K0 : ((w.alloc (.cells #[.bool true, .int .i64 s, .int .i64 e] 36)).alloc (.cells #[.bool g', .int .i64 s', .int .i64 e'] 36)).drew.cell? ⟨w.heap.size, 0, none⟩ = some (.bool true) ∧ ((w.alloc (.cells #[.bool true, .int .i64 s, .int .i64 e] 36)).alloc (.cells #[.bool g', .int .i64 s', .int .i64 e'] 36)).drew.cell? ⟨w.heap.size, 1, none⟩ = some (.int .i64 s) ∧ ((w.alloc (.cells #[.bool true, .int .i64 s, .int .i64 e] 36)).alloc (.cells #[.bool g', .int .i64 s', .int .i64 e'] 36)).drew.cell? ⟨w.heap.size, 2, none⟩ = some (.int .i64 e) ∧ ((w.alloc (.cells #[.bool true, .int .i64 s, .int .i64 e] 36)).alloc (.cells #[.bool g', .int .i64 s', .int .i64 e'] 36)).drew.cell? ⟨w.heap.size + 1, 0, none⟩ = some (.bool g') ∧ ((w.alloc (.cells #[.bool true, .int .i64 s, .int .i64 e] 36)).alloc (.cells #[.bool g', .int .i64 s', .int .i64 e'] 36)).drew.cell? ⟨w.heap.size + 1, 1, none⟩ = some (.int .i64 s') ∧ ((w.alloc (.cells #[.bool true, .int .i64 s, .int .i64 e] 36)).alloc (.cells #[.bool g', .int .i64 s', .int .i64 e'] 36)).drew.cell? ⟨w.heap.size + 1, 2, none⟩ = some (.int .i64 e') ∧ Aside0 (Bw ⟨true, s, e⟩ ⟨g', s', e'⟩ w ((w.alloc (.cells #[.bool true, .int .i64 s, .int .i64 e] 36)).alloc (.cells #[.bool g', .int .i64 s', .int .i64 e'] 36)).drew) := Bw.all (x := ⟨true, s, e⟩) (y := ⟨g', s', e'⟩) (Bw.step ⟨by rw [heap_alloc_old _ _ (by simp)]; exact heap_alloc_new w _, new2' w _ _, below_alloc (below_alloc (Below.refl w.heap.size w) _) _⟩ (below_drew (Below.refl _ _)))
    go_enter Try.func37, Try.ntmps37
    go_wp2_with fail
    go_region_held3 (fun z => z.cell? ⟨w.heap.size, 0, none⟩ = some (.bool true) ∧ z.cell? ⟨w.heap.size, 1, none⟩ = some (.int .i64 s) ∧ z.cell? ⟨w.heap.size, 2, none⟩ = some (.int .i64 e) ∧ z.cell? ⟨w.heap.size + 1, 0, none⟩ = some (.bool g') ∧ z.cell? ⟨w.heap.size + 1, 1, none⟩ = some (.int .i64 s') ∧ z.cell? ⟨w.heap.size + 1, 2, none⟩ = some (.int .i64 e') ∧ Aside0 (Bw ⟨true, s, e⟩ ⟨g', s', e'⟩ w z)) (first | exact K | exact K0 | assumption)
      (first
      | (go_at_call 60; refine (win_any ⟨_, _, _⟩ _).mono ?_; rintro e_ w1 ⟨rfl, hb⟩; have K : w1.cell? ⟨w.heap.size, 0, none⟩ = some (.bool true) ∧ w1.cell? ⟨w.heap.size, 1, none⟩ = some (.int .i64 s) ∧ w1.cell? ⟨w.heap.size, 2, none⟩ = some (.int .i64 e) ∧ w1.cell? ⟨w.heap.size + 1, 0, none⟩ = some (.bool g') ∧ w1.cell? ⟨w.heap.size + 1, 1, none⟩ = some (.int .i64 s') ∧ w1.cell? ⟨w.heap.size + 1, 2, none⟩ = some (.int .i64 e') ∧ Aside0 (Bw ⟨true, s, e⟩ ⟨g', s', e'⟩ w w1) := Bw.step2 (x := ⟨true, s, e⟩) (y := ⟨g', s', e'⟩) hb (by assumption); clear hb; try rw [show ifv ⟨true, s, e⟩ = .iface 105 (.agg #[]) from rfl])
      | (go_at_call 116; refine (gEq_any ⟨g', s', e'⟩ _).mono ?_; rintro e_ w3 ⟨rfl, hb⟩; have K3 : w3.cell? ⟨w.heap.size, 0, none⟩ = some (.bool true) ∧ w3.cell? ⟨w.heap.size, 1, none⟩ = some (.int .i64 s) ∧ w3.cell? ⟨w.heap.size, 2, none⟩ = some (.int .i64 e) ∧ w3.cell? ⟨w.heap.size + 1, 0, none⟩ = some (.bool g') ∧ w3.cell? ⟨w.heap.size + 1, 1, none⟩ = some (.int .i64 s') ∧ w3.cell? ⟨w.heap.size + 1, 2, none⟩ = some (.int .i64 e') ∧ Aside0 (Bw ⟨true, s, e⟩ ⟨g', s', e'⟩ w w3) := Bw.step2 (x := ⟨true, s, e⟩) (y := ⟨g', s', e'⟩) hb (by assumption); clear hb; have K := K3))
    all_goals
      go_wp2
      go_ret
      exact ⟨ret_bool q.out, K3.2.2.2.2.2.2.out.2.2⟩
end Go.Proofs.Ytdifeleddhefnaa
