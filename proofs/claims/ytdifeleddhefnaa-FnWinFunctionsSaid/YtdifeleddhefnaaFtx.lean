/- The text of a function, as the program and as the reference write it. -/
import Derived.Test.YtdifeleddhefnaaWdu
set_option linter.unusedVariables false
set_option linter.unusedSimpArgs false
namespace Go.Proofs.Ytdifeleddhefnaa
open Go.RowKit Go.Proofs.YtdifeleddhefnaaW.PrintWords

theorem durRef (ms : Nat) (h0 : 1 ≤ ms) (h1 : ms ≤ 1000000000) (w : World) : Calls Try.prog 71 #[.int .i64 ms] w fun e w' => e = .returned (.string (bstr (dtxt ms))) ∧ Below w.heap.size w w' := by
  rw [dtxt_ref h0]
  by_cases h : ms < 1000
  · exact dur_small ms h w
  · exact dur_big ms (by omega) h1 w
theorem durRefI (n : Int) (h0 : 1 ≤ n) (h1 : n ≤ 1000000000) : ∀ w : World, Calls Try.prog 71 #[.int .i64 n] w fun e w' => e = .returned (.string (dstr n)) ∧ Below w.heap.size w w' := fun w => by
  have h := durRef n.toNat (by omega) (by omega) w
  rw [show ((n.toNat : Nat) : Int) = n by omega] at h
  exact h
theorem fnStr45_any (f : WF) (hs : In9 f.sz) (hd : In9 f.pd) (hg : In9 f.gp) (w : World) : Calls Try.prog 45 #[f.val] w fun e w' => e = .returned (.string (ftxt f)) ∧ Below w.heap.size w w' := by
  obtain ⟨k, sz, pd, gp⟩ := f
  have HS := Aside0.mk hs
  have HD := Aside0.mk hd
  have HG := Aside0.mk hg
  clear hs hd hg
  show Calls Try.prog 45 #[.agg #[.int .u8 k, .int .i64 sz, .int .i64 pd, .int .i64 gp]] w _
  go_enter Try.func45, Try.ntmps45
  go_wp2_with fail
  refine (winFn_any ⟨k, sz, pd, gp⟩ HS.out HD.out HG.out _).mono ?_
  rintro e_ w1 ⟨g, rfl, hg1, hg2, hb⟩
  have HB := Aside0.mk (below_then (below_alloc (Below.refl w.heap.size w) (.cells #[.int .u8 k, .int .i64 sz, .int .i64 pd, .int .i64 gp] 30)) (below_alloc (Below.refl w.heap.size w) (.cells #[.int .u8 k, .int .i64 sz, .int .i64 pd, .int .i64 gp] 30)).size hb)
  have HG2 := Aside0.mk hg2
  clear hg1 hg2 hb
  go_wp2_with fail
  refine (fnString_any g ⟨k, sz, pd, gp⟩ HS.out HD.out HG.out _ HG2.out).mono ?_
  rintro e_ w2 ⟨rfl, hb⟩
  have HB := Aside0.mk (below_then HB.out HB.out.size hb)
  clear hb
  go_wp2
  go_ret
  exact ⟨rfl, HB.out⟩
theorem txt46_1 (sz pd gp : Int) (h0 : 1 ≤ sz) (h1 : sz ≤ 1000000000) (w : World) : Calls Try.prog 46 #[.agg #[.int .u8 1, .int .i64 sz, .int .i64 pd, .int .i64 gp]] w fun e w' => e = .returned (.string (⟨#[70, 73, 88, 91]⟩ ++ dstr sz ++ ⟨#[93]⟩)) ∧ Below w.heap.size w w' := by
  have HD := Aside0.mk (durRefI sz h0 h1)
  have s1 := dstr_size sz (by omega) h1
  generalize dstr sz = D at HD s1
  clear h0 h1
  go_enter Try.func46, Try.ntmps46
  go_wp2_with fail
  refine (HD.out _).mono ?_
  rintro e_ w1 ⟨rfl, hb⟩
  have HB := Aside0.mk (below_then (below_alloc (Below.refl w.heap.size w) (.cells #[.int .u8 1, .int .i64 sz, .int .i64 pd, .int .i64 gp] 23)) (below_alloc (Below.refl w.heap.size w) (.cells #[.int .u8 1, .int .i64 sz, .int .i64 pd, .int .i64 gp] 23)).size hb)
  clear hb
  go_wp2
  go_ret
  exact ⟨rfl, HB.out⟩
theorem txt46_3 (sz pd gp : Int) (h0 : 1 ≤ gp) (h1 : gp ≤ 1000000000) (w : World) : Calls Try.prog 46 #[.agg #[.int .u8 3, .int .i64 sz, .int .i64 pd, .int .i64 gp]] w fun e w' => e = .returned (.string (⟨#[83, 69, 83, 91]⟩ ++ dstr gp ++ ⟨#[93]⟩)) ∧ Below w.heap.size w w' := by
  have HD := Aside0.mk (durRefI gp h0 h1)
  have s1 := dstr_size gp (by omega) h1
  generalize dstr gp = D at HD s1
  clear h0 h1
  go_enter Try.func46, Try.ntmps46
  go_wp2_with fail
  refine (HD.out _).mono ?_
  rintro e_ w1 ⟨rfl, hb⟩
  have HB := Aside0.mk (below_then (below_alloc (Below.refl w.heap.size w) (.cells #[.int .u8 3, .int .i64 sz, .int .i64 pd, .int .i64 gp] 23)) (below_alloc (Below.refl w.heap.size w) (.cells #[.int .u8 3, .int .i64 sz, .int .i64 pd, .int .i64 gp] 23)).size hb)
  clear hb
  go_wp2
  go_ret
  exact ⟨rfl, HB.out⟩
set_option maxRecDepth 100000 in
set_option maxHeartbeats 4000000 in
theorem txt46_2 (sz pd gp : Int) (h0 : 1 ≤ sz) (h1 : sz ≤ 1000000000) (h2 : 1 ≤ pd) (h3 : pd ≤ 1000000000) (w : World) : Calls Try.prog 46 #[.agg #[.int .u8 2, .int .i64 sz, .int .i64 pd, .int .i64 gp]] w fun e w' => e = .returned (.string (⟨#[83, 76, 73, 91]⟩ ++ dstr sz ++ ⟨#[64]⟩ ++ dstr pd ++ ⟨#[93]⟩)) ∧ Below w.heap.size w w' := by
  have HD := Aside0.mk (durRefI sz h0 h1)
  have HD2 := Aside0.mk (durRefI pd h2 h3)
  have s1 := dstr_size sz (by omega) h1
  have s2 := dstr_size pd (by omega) h3
  generalize dstr sz = D at HD s1
  generalize dstr pd = G at HD2 s2
  have g1 : ¬ 9223372036854775807 < 4 + D.size := by omega
  have g2 : ¬ 9223372036854775807 < 4 + D.size + 1 := by omega
  have g3 : ¬ 9223372036854775807 < 4 + D.size + 1 + G.size := by omega
  have g4 : ¬ 9223372036854775807 < 4 + D.size + 1 + G.size + 1 := by omega
  have B := Aside0.mk (heap_alloc_new w (.cells #[.int .u8 2, .int .i64 sz, .int .i64 pd, .int .i64 gp] 23))
  have K0 : (w.alloc (.cells #[.int .u8 2, .int .i64 sz, .int .i64 pd, .int .i64 gp] 23)).drew.cell? ⟨w.heap.size, 1, none⟩ = some (.int .i64 sz) ∧ (w.alloc (.cells #[.int .u8 2, .int .i64 sz, .int .i64 pd, .int .i64 gp] 23)).drew.cell? ⟨w.heap.size, 2, none⟩ = some (.int .i64 pd) ∧ Aside0 (Below w.heap.size w (w.alloc (.cells #[.int .u8 2, .int .i64 sz, .int .i64 pd, .int .i64 gp] 23)).drew) := ⟨(blk_cell B.out 1).trans rfl, (blk_cell B.out 2).trans rfl, ⟨below_drew (below_alloc (Below.refl _ _) _)⟩⟩
  clear h0 h1 h2 h3
  go_enter Try.func46, Try.ntmps46
  go_wp2_with fail
  go_region_held3 (fun x => x.cell? ⟨w.heap.size, 1, none⟩ = some (.int .i64 sz) ∧ x.cell? ⟨w.heap.size, 2, none⟩ = some (.int .i64 pd) ∧ Aside0 (Below w.heap.size w x)) (first | exact K | exact K0 | assumption)
    (first
    | (go_at_call 71; (with_reducible refine (HD2.out _).mono ?_); rintro e_ w2 ⟨rfl, hb⟩; have KK : w2.cell? ⟨w.heap.size, 1, none⟩ = some (.int .i64 sz) ∧ w2.cell? ⟨w.heap.size, 2, none⟩ = some (.int .i64 pd) ∧ Aside0 (Below w.heap.size w w2) := ⟨(hb.cell (World.block_lt_of_cell? _ _ K.1)).trans K.1, (hb.cell (World.block_lt_of_cell? _ _ K.2.1)).trans K.2.1, ⟨below_then K.2.2.out K.2.2.out.size hb⟩⟩; clear hb; have K := KK)
    | (go_at_call 71; (with_reducible refine (HD.out _).mono ?_); rintro e_ w1 ⟨rfl, hb⟩; have K : w1.cell? ⟨w.heap.size, 1, none⟩ = some (.int .i64 sz) ∧ w1.cell? ⟨w.heap.size, 2, none⟩ = some (.int .i64 pd) ∧ Aside0 (Below w.heap.size w w1) := ⟨(hb.cell (World.block_lt_of_cell? _ _ K0.1)).trans K0.1, (hb.cell (World.block_lt_of_cell? _ _ K0.2.1)).trans K0.2.1, ⟨below_then K0.2.2.out K0.2.2.out.size hb⟩⟩; clear hb))
  all_goals
    go_wp2
    go_ret
    exact ⟨rfl, KK.2.2.out⟩
theorem txt46_0 (k sz pd gp : Int) (k1 : ¬ k = 1) (k2 : ¬ k = 2) (k3 : ¬ k = 3) (w : World) : Calls Try.prog 46 #[.agg #[.int .u8 k, .int .i64 sz, .int .i64 pd, .int .i64 gp]] w fun e w' => e = .returned (.string ⟨#[71, 76, 79]⟩) ∧ Below w.heap.size w w' := by
  have q1 : (k == 1) = false := beq_eq_false_iff_ne.2 k1
  have q2 : (k == 2) = false := beq_eq_false_iff_ne.2 k2
  have q3 : (k == 3) = false := beq_eq_false_iff_ne.2 k3
  clear k1 k2 k3
  go_enter Try.func46, Try.ntmps46
  go_wp2
  go_ret
  exact ⟨rfl, below_alloc (Below.refl _ _) _⟩
/-- The reference writes the same text. -/
theorem txt46_any (f : WF) (t : Int) (h : FT f t) (w : World) (h3 : f.k = 3 → 1 ≤ f.gp) : Calls Try.prog 46 #[f.val] w fun e w' => e = .returned (.string (ftxt f)) ∧ Below w.heap.size w w' := by
  obtain ⟨k, sz, pd, gp⟩ := f
  show Calls Try.prog 46 #[.agg #[.int .u8 k, .int .i64 sz, .int .i64 pd, .int .i64 gp]] w _
  unfold ftxt
  simp only
  by_cases k1 : k = 1
  · subst k1
    exact txt46_1 sz pd gp (h.f1 rfl).1 h.s.2 w
  · rw [if_neg k1]
    by_cases k2 : k = 2
    · subst k2
      exact txt46_2 sz pd gp (h.f2 rfl).1 h.s.2 (h.f2 rfl).2.1 h.p.2 w
    · rw [if_neg k2]
      by_cases k3 : k = 3
      · subst k3
        exact txt46_3 sz pd gp (h3 rfl) h.g.2 w
      · rw [if_neg k3]
        exact txt46_0 k sz pd gp k1 k2 k3 w
end Go.Proofs.Ytdifeleddhefnaa
