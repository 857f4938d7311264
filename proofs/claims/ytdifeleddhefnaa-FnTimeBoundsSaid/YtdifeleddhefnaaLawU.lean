/- The walk of FnTimeBounds. -/
import Derived.Test.YtdifeleddhefnaaLawT
import Derived.Deep.RegionWith
import Derived.Deep.RegionHeld3
set_option linter.unusedVariables false
set_option linter.unusedSimpArgs false
namespace Go.Proofs.Ytdifeleddhefnaa
open Go.RowKit Go.Proofs.YtdifeleddhefnaaW.PrintWords

theorem bounds_any (w : World) : Calls Try.prog 28 #[] w fun e w' => e = .returned (.agg #[.int .i64 (-9223372036854775), .int .i64 9223372036854775, .int .i64 9223371950454775, .int .i64 0]) ∧ Below w.heap.size w w' := by
  go_enter Try.func28, Try.ntmps28
  go_wp2
  go_returns
  exact ⟨rfl, by repeat (first | exact Below.refl _ _ | apply below_alloc | apply below_drew | apply pw_below_drewN | refine below_set ?_ (by simp) | (refine Below.setCell ?_ (by simp) _))⟩
def S4 (w x : World) : Prop := x.heap[w.heap.size]? = some (.cells #[.int .i64 (-9223372036854775), .int .i64 9223372036854775, .int .i64 9223371950454775, .int .i64 0] 41 (0, 0)) ∧ Below w.heap.size w x
theorem S4.all {w x : World} (h : S4 w x) : x.cell? ⟨w.heap.size, 0, none⟩ = some (.int .i64 (-9223372036854775)) ∧ x.cell? ⟨w.heap.size, 1, none⟩ = some (.int .i64 9223372036854775) ∧ x.cell? ⟨w.heap.size, 2, none⟩ = some (.int .i64 9223371950454775) ∧ x.cell? ⟨w.heap.size, 3, none⟩ = some (.int .i64 0) ∧ Aside0 (S4 w x) :=
  ⟨(blk_cell h.1 0).trans rfl, (blk_cell h.1 1).trans rfl, (blk_cell h.1 2).trans rfl, (blk_cell h.1 3).trans rfl, ⟨h⟩⟩
theorem S4.step {w x y : World} (h : x.cell? ⟨w.heap.size, 0, none⟩ = some (.int .i64 (-9223372036854775)) ∧ x.cell? ⟨w.heap.size, 1, none⟩ = some (.int .i64 9223372036854775) ∧ x.cell? ⟨w.heap.size, 2, none⟩ = some (.int .i64 9223371950454775) ∧ x.cell? ⟨w.heap.size, 3, none⟩ = some (.int .i64 0) ∧ Aside0 (S4 w x)) (hb : Below x.heap.size x y) : y.cell? ⟨w.heap.size, 0, none⟩ = some (.int .i64 (-9223372036854775)) ∧ y.cell? ⟨w.heap.size, 1, none⟩ = some (.int .i64 9223372036854775) ∧ y.cell? ⟨w.heap.size, 2, none⟩ = some (.int .i64 9223371950454775) ∧ y.cell? ⟨w.heap.size, 3, none⟩ = some (.int .i64 0) ∧ Aside0 (S4 w y) :=
  S4.all ⟨blk_below h.2.2.2.2.out.1 hb, below_then h.2.2.2.2.out.2 h.2.2.2.2.out.2.size hb⟩
theorem eqB : ∀ W : World, (Op.equalIn 10000 41 (.agg #[.int .i64 (-9223372036854775), .int .i64 9223372036854775, .int .i64 9223371950454775, .int .i64 0]) (.agg #[.int .i64 (-9223372036854775), .int .i64 9223372036854775, .int .i64 9223371950454775, .int .i64 0])).run Try.prog W = .ok true W := fun _ => by kernel_rfl
set_option maxRecDepth 100000 in
set_option maxHeartbeats 2000000 in
theorem timeBounds_walk (a b : Int) (w0 : (Lit.int .i64 a).wf = true) (w1 : (Lit.int .i64 b).wf = true) (w : World) :
    Calls Try.prog 9 #[.int .i64 a, .int .i64 b] w fun e w' => e = .returned (.bool true) ∧ Below w.heap.size w w' := by
  clear w0 w1
  have hw : ∀ i, (w.alloc (.cells #[.int .i64 (-9223372036854775), .int .i64 9223372036854775, .int .i64 9223371950454775, .int .i64 0] 41)).cell? ⟨w.heap.size, i, none⟩ = (#[Value.int .i64 (-9223372036854775), .int .i64 9223372036854775, .int .i64 9223371950454775, .int .i64 0])[i]? := fun i => blk_cell (heap_alloc_new w _) i
  have hE := eqB
  rcases (show a < b ∨ a = b ∨ b < a from by omega) with h | h | h
  · have q1 : ¬ b < a := by omega
    have hm : mx a b = b := by unfold mx; split <;> omega
    have hn : mn a b = a := by unfold mn; split <;> omega
    go_enter Try.func9, Try.ntmps9
    go_wp2_with fail
    have K0 := S4.all (w := w) (x := (w.alloc (.cells #[.int .i64 (-9223372036854775), .int .i64 9223372036854775, .int .i64 9223371950454775, .int .i64 0] 41)).drew) ⟨heap_alloc_new w _, below_drew (below_alloc (Below.refl w.heap.size w) _)⟩
    go_region_held3 (fun x => x.cell? ⟨w.heap.size, 0, none⟩ = some (.int .i64 (-9223372036854775)) ∧ x.cell? ⟨w.heap.size, 1, none⟩ = some (.int .i64 9223372036854775) ∧ x.cell? ⟨w.heap.size, 2, none⟩ = some (.int .i64 9223371950454775) ∧ x.cell? ⟨w.heap.size, 3, none⟩ = some (.int .i64 0) ∧ Aside0 (S4 w x)) (first | exact K | exact K0 | assumption)
      (first
      | (go_at_call 28; refine (bounds_any _).mono ?_; rintro e w1 ⟨rfl, hb⟩; have K := S4.step (by assumption) hb; clear hb)
      | (go_at_call 29; refine (timeNorm_any _ _).mono ?_; rintro e w' ⟨rfl, rfl⟩)
      | (go_at_call 30; refine (timeIn_any _ _).mono ?_; rintro e w' ⟨rfl, rfl⟩)
      | (go_at_call 31; refine (timeMax_any _ _ _).mono ?_; rintro e w' ⟨rfl, rfl⟩)
      | (go_at_call 32; refine (timeMin_any _ _ _).mono ?_; rintro e w' ⟨rfl, rfl⟩)
      | (go_at_call 23; refine (awake_any _).mono ?_; rintro e w2 ⟨rfl, hb⟩; have K := S4.step (by assumption) hb; clear hb))
    all_goals
      go_wp2
      go_ret
      exact ⟨rfl, (show Aside0 (S4 w _) from (by assumption : _ ∧ _ ∧ _ ∧ _ ∧ Aside0 (S4 w _)).2.2.2.2).out.2⟩
  · subst h; have q1 : ¬ a < a := by omega
    have hm : mx a a = a := by unfold mx; split <;> omega
    have hn : mn a a = a := by unfold mn; split <;> omega
    go_enter Try.func9, Try.ntmps9
    go_wp2_with fail
    have K0 := S4.all (w := w) (x := (w.alloc (.cells #[.int .i64 (-9223372036854775), .int .i64 9223372036854775, .int .i64 9223371950454775, .int .i64 0] 41)).drew) ⟨heap_alloc_new w _, below_drew (below_alloc (Below.refl w.heap.size w) _)⟩
    go_region_held3 (fun x => x.cell? ⟨w.heap.size, 0, none⟩ = some (.int .i64 (-9223372036854775)) ∧ x.cell? ⟨w.heap.size, 1, none⟩ = some (.int .i64 9223372036854775) ∧ x.cell? ⟨w.heap.size, 2, none⟩ = some (.int .i64 9223371950454775) ∧ x.cell? ⟨w.heap.size, 3, none⟩ = some (.int .i64 0) ∧ Aside0 (S4 w x)) (first | exact K | exact K0 | assumption)
      (first
      | (go_at_call 28; refine (bounds_any _).mono ?_; rintro e w1 ⟨rfl, hb⟩; have K := S4.step (by assumption) hb; clear hb)
      | (go_at_call 29; refine (timeNorm_any _ _).mono ?_; rintro e w' ⟨rfl, rfl⟩)
      | (go_at_call 30; refine (timeIn_any _ _).mono ?_; rintro e w' ⟨rfl, rfl⟩)
      | (go_at_call 31; refine (timeMax_any _ _ _).mono ?_; rintro e w' ⟨rfl, rfl⟩)
      | (go_at_call 32; refine (timeMin_any _ _ _).mono ?_; rintro e w' ⟨rfl, rfl⟩)
      | (go_at_call 23; refine (awake_any _).mono ?_; rintro e w2 ⟨rfl, hb⟩; have K := S4.step (by assumption) hb; clear hb))
    all_goals
      go_wp2
      go_ret
      exact ⟨rfl, (show Aside0 (S4 w _) from (by assumption : _ ∧ _ ∧ _ ∧ _ ∧ Aside0 (S4 w _)).2.2.2.2).out.2⟩
  · have q1 : ¬ a < b := by omega
    have q2 : (if a < b then b else a) = a := if_neg q1
    have hm : mx a b = a := by unfold mx; split <;> omega
    have hn : mn a b = b := by unfold mn; split <;> omega
    go_enter Try.func9, Try.ntmps9
    go_wp2_with fail
    have K0 := S4.all (w := w) (x := (w.alloc (.cells #[.int .i64 (-9223372036854775), .int .i64 9223372036854775, .int .i64 9223371950454775, .int .i64 0] 41)).drew) ⟨heap_alloc_new w _, below_drew (below_alloc (Below.refl w.heap.size w) _)⟩
    go_region_held3 (fun x => x.cell? ⟨w.heap.size, 0, none⟩ = some (.int .i64 (-9223372036854775)) ∧ x.cell? ⟨w.heap.size, 1, none⟩ = some (.int .i64 9223372036854775) ∧ x.cell? ⟨w.heap.size, 2, none⟩ = some (.int .i64 9223371950454775) ∧ x.cell? ⟨w.heap.size, 3, none⟩ = some (.int .i64 0) ∧ Aside0 (S4 w x)) (first | exact K | exact K0 | assumption)
      (first
      | (go_at_call 28; refine (bounds_any _).mono ?_; rintro e w1 ⟨rfl, hb⟩; have K := S4.step (by assumption) hb; clear hb)
      | (go_at_call 29; refine (timeNorm_any _ _).mono ?_; rintro e w' ⟨rfl, rfl⟩)
      | (go_at_call 30; refine (timeIn_any _ _).mono ?_; rintro e w' ⟨rfl, rfl⟩)
      | (go_at_call 31; refine (timeMax_any _ _ _).mono ?_; rintro e w' ⟨rfl, rfl⟩)
      | (go_at_call 32; refine (timeMin_any _ _ _).mono ?_; rintro e w' ⟨rfl, rfl⟩)
      | (go_at_call 23; refine (awake_any _).mono ?_; rintro e w2 ⟨rfl, hb⟩; have K := S4.step (by assumption) hb; clear hb))
    all_goals
      go_wp2
      go_ret
      exact ⟨rfl, (show Aside0 (S4 w _) from (by assumption : _ ∧ _ ∧ _ ∧ _ ∧ Aside0 (S4 w _)).2.2.2.2).out.2⟩
end Go.Proofs.Ytdifeleddhefnaa
