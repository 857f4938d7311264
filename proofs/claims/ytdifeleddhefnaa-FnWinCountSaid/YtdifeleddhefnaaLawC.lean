/- The walk of FnWinCount. -/
import Derived.Test.YtdifeleddhefnaaPl
import Derived.Deep.RegionHeld3
set_option linter.unusedVariables false
set_option linter.unusedSimpArgs false
namespace Go.Proofs.Ytdifeleddhefnaa
open Go.RowKit Go.Proofs.YtdifeleddhefnaaW.PrintWords

set_option maxRecDepth 100000 in
set_option maxHeartbeats 2000000 in
theorem winCount_walk (k sz pd gp t : Int) (w0 : (Lit.int .u8 k).wf = true) (w1 : (Lit.int .i64 sz).wf = true) (w2 : (Lit.int .i64 pd).wf = true) (w3 : (Lit.int .i64 gp).wf = true) (w4 : (Lit.int .i64 t).wf = true) (w : World) :
    Calls Try.prog 4 #[.agg #[.int .u8 k, .int .i64 sz, .int .i64 pd, .int .i64 gp], .int .i64 t] w fun e w' => e = .returned (.bool true) ∧ Below w.heap.size w w' := by
  have k0 := (u8_bd' w0).1
  clear w0 w1 w2 w3 w4
  have hfin : ∀ x, Below (w.alloc (.cells #[.int .u8 k, .int .i64 sz, .int .i64 pd, .int .i64 gp] 23)).heap.size (w.alloc (.cells #[.int .u8 k, .int .i64 sz, .int .i64 pd, .int .i64 gp] 23)) x → Below w.heap.size w x := fun x hb => (below_alloc (Below.refl w.heap.size w) _).trans (hb.mono (by simp))
  have HFin := Aside0.mk hfin
  clear hfin
  cases hF : isF ⟨k, sz, pd, gp⟩
  · go_enter Try.func4, Try.ntmps4
    go_wp2_with (go_at_call 18; refine (isF_any ⟨k, sz, pd, gp⟩ k0 _).mono ?_; rintro e w1 ⟨rfl, hb⟩; rw [hF]; have HB := Aside0.mk hb; clear hb)
    go_ret
    exact ⟨rfl, HFin.out _ HB.out⟩
  · by_cases t0 : t < 0
    · go_enter Try.func4, Try.ntmps4
      go_wp2_with (go_at_call 18; refine (isF_any ⟨k, sz, pd, gp⟩ k0 _).mono ?_; rintro e w1 ⟨rfl, hb⟩; rw [hF]; have HB := Aside0.mk hb; clear hb)
      go_ret
      exact ⟨rfl, HFin.out _ HB.out⟩
    · by_cases t1 : 562949953421312 < t
      · go_enter Try.func4, Try.ntmps4
        go_wp2_with (go_at_call 18; refine (isF_any ⟨k, sz, pd, gp⟩ k0 _).mono ?_; rintro e w1 ⟨rfl, hb⟩; rw [hF]; have HB := Aside0.mk hb; clear hb)
        go_ret
        exact ⟨rfl, HFin.out _ HB.out⟩
      · have HF := Aside0.mk (isF_FT (t := t) hF (by omega) (by omega))
        obtain ⟨k3, hg1, hg0, hp0⟩ := isF_gap hF
        clear hg1 hg0 hp0
        by_cases hk : k = 2
        · subst hk
          have hcnt := placed_count HF.out rfl
          obtain ⟨b1, b2, b3⟩ := HF.out.f2 rfl
          simp only at hcnt b1 b2
          have q1 : sz.tdiv pd = sz / pd := Int.tdiv_eq_ediv_of_nonneg (by omega)
          have q2 : sz.tmod pd = sz % pd := Int.tmod_eq_emod_of_nonneg (by omega)
          have q3 : (pd == 0) = false := by simp; omega
          have q4 : 0 ≤ sz / pd := Int.ediv_nonneg (by omega) (by omega)
          have q5 : sz / pd ≤ 1000000000 := Int.le_trans (Int.ediv_le_self _ (by omega)) HF.out.s.2
          have HL := placed_len (t := t) HF.out.s
          generalize hN : (placed ⟨2, sz, pd, gp⟩ t).length = N at *
          generalize hQ : sz / pd = Q at *
          generalize hM : sz % pd = M at *
          have HN := Aside0.mk hN
          clear hN hQ hM k3
          by_cases hm : M = 0
          · have hc := hcnt.resolve_right (fun h => h.2 hm)
            subst hm
            clear hcnt
            go_enter Try.func4, Try.ntmps4
            go_wp2_with (first
              | (go_at_call 18; refine (isF_any ⟨2, sz, pd, gp⟩ k0 _).mono ?_; rintro e w1 ⟨rfl, hb⟩; rw [hF]; obtain ⟨x0, x1, x2, x3, K1⟩ := Bx.all (k := 2) (sz := sz) (pd := pd) (gp := gp) (w := w) (x := w1) ⟨blk_below (heap_alloc_new w _) hb, HFin.out _ hb⟩; clear hb)
              | (go_at_call 21; refine (winAssign_any ⟨2, sz, pd, gp⟩ t HF.out _).mono ?_; rintro e w2 ⟨v_, rfl, hR, hb⟩; clear x0 x1 x2 x3; obtain ⟨x0, x1, x2, x3, K2⟩ := Bx.all (K1.out.step hb); obtain ⟨A_, c_, hv_, hc_, hC_⟩ := reads_sp hR; subst hv_; rw [HN.out]; have HC := Aside0.mk hc_; have HCC := Aside0.mk hC_; clear hb hR hc_ hC_)
              | (go_at_call 23; refine (awake_any _).mono ?_; rintro e w6 ⟨rfl, hb⟩; have HZ := Aside0.mk (below_then (K2.out.2) (K2.out.2).size hb); clear hb))
            go_ret
            exact ⟨rfl, HZ.out⟩
          · have hm' : (M == 0) = false := by simp; omega
            rcases hcnt with hc | ⟨hc, _⟩
            · go_enter Try.func4, Try.ntmps4
              go_wp2_with (first
              | (go_at_call 18; refine (isF_any ⟨2, sz, pd, gp⟩ k0 _).mono ?_; rintro e w1 ⟨rfl, hb⟩; rw [hF]; obtain ⟨x0, x1, x2, x3, K1⟩ := Bx.all (k := 2) (sz := sz) (pd := pd) (gp := gp) (w := w) (x := w1) ⟨blk_below (heap_alloc_new w _) hb, HFin.out _ hb⟩; clear hb)
              | (go_at_call 21; refine (winAssign_any ⟨2, sz, pd, gp⟩ t HF.out _).mono ?_; rintro e w2 ⟨v_, rfl, hR, hb⟩; clear x0 x1 x2 x3; obtain ⟨x0, x1, x2, x3, K2⟩ := Bx.all (K1.out.step hb); obtain ⟨A_, c_, hv_, hc_, hC_⟩ := reads_sp hR; subst hv_; rw [HN.out]; have HC := Aside0.mk hc_; have HCC := Aside0.mk hC_; clear hb hR hc_ hC_)
              | (go_at_call 23; refine (awake_any _).mono ?_; rintro e w6 ⟨rfl, hb⟩; have HZ := Aside0.mk (below_then (K2.out.2) (K2.out.2).size hb); clear hb))
              go_ret
              exact ⟨rfl, HZ.out⟩
            · have hc' : ((N : Int) == Q) = false := by simp; omega
              go_enter Try.func4, Try.ntmps4
              go_wp2_with (first
              | (go_at_call 18; refine (isF_any ⟨2, sz, pd, gp⟩ k0 _).mono ?_; rintro e w1 ⟨rfl, hb⟩; rw [hF]; obtain ⟨x0, x1, x2, x3, K1⟩ := Bx.all (k := 2) (sz := sz) (pd := pd) (gp := gp) (w := w) (x := w1) ⟨blk_below (heap_alloc_new w _) hb, HFin.out _ hb⟩; clear hb)
              | (go_at_call 21; refine (winAssign_any ⟨2, sz, pd, gp⟩ t HF.out _).mono ?_; rintro e w2 ⟨v_, rfl, hR, hb⟩; clear x0 x1 x2 x3; obtain ⟨x0, x1, x2, x3, K2⟩ := Bx.all (K1.out.step hb); obtain ⟨A_, c_, hv_, hc_, hC_⟩ := reads_sp hR; subst hv_; rw [HN.out]; have HC := Aside0.mk hc_; have HCC := Aside0.mk hC_; clear hb hR hc_ hC_)
              | (go_at_call 23; refine (awake_any _).mono ?_; rintro e w6 ⟨rfl, hb⟩; have HZ := Aside0.mk (below_then (K2.out.2) (K2.out.2).size hb); clear hb))
              go_ret
              exact ⟨rfl, HZ.out⟩
        · have hone := placed_one (f := ⟨k, sz, pd, gp⟩) (t := t) hk
          have hk' : (k != 2) = true := by simp [hk]
          clear hk
          go_enter Try.func4, Try.ntmps4
          go_wp2_with (first
            | (go_at_call 18; refine (isF_any ⟨k, sz, pd, gp⟩ k0 _).mono ?_; rintro e w1 ⟨rfl, hb⟩; rw [hF]; obtain ⟨x0, x1, x2, x3, K1⟩ := Bx.all (k := k) (sz := sz) (pd := pd) (gp := gp) (w := w) (x := w1) ⟨blk_below (heap_alloc_new w _) hb, HFin.out _ hb⟩; clear hb)
            | (go_at_call 21; refine (winAssign_any ⟨k, sz, pd, gp⟩ t HF.out _).mono ?_; rintro e w2 ⟨v_, rfl, hR, hb⟩; clear x0 x1 x2 x3; obtain ⟨x0, x1, x2, x3, K2⟩ := Bx.all (K1.out.step hb); obtain ⟨A_, c_, hv_, hc_, hC_⟩ := reads_sp hR; subst hv_; rw [hone]; have HC := Aside0.mk hc_; have HCC := Aside0.mk hC_; clear hb hR hc_ hC_)
            | (go_at_call 23; refine (awake_any _).mono ?_; rintro e w6 ⟨rfl, hb⟩; have HZ := Aside0.mk (below_then (K2.out.2) (K2.out.2).size hb); clear hb))
          go_ret
          exact ⟨rfl, HZ.out⟩
end Go.Proofs.Ytdifeleddhefnaa
