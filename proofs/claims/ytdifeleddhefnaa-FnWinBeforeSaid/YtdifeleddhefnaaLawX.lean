/- The walk of FnWinBefore. -/
import Derived.Test.YtdifeleddhefnaaLawW
set_option linter.unusedVariables false
set_option linter.unusedSimpArgs false
namespace Go.Proofs.Ytdifeleddhefnaa
open Go.RowKit Go.Proofs.YtdifeleddhefnaaW.PrintWords

set_option maxRecDepth 100000 in
set_option maxHeartbeats 2000000 in
theorem winBefore_walk (sz t : Int) (w0 : (Lit.int .i64 sz).wf = true) (w1 : (Lit.int .i64 t).wf = true) (w : World) :
    Calls Try.prog 3 #[.int .i64 sz, .int .i64 t] w fun e w' => e = .returned (.bool true) ∧ Below w.heap.size w w' := by
  have k0 : (0 : Int) ≤ 1 := by decide
  clear w0 w1
  have hfin : ∀ x, Below (w.alloc (.cells #[.int .u8 1, .int .i64 sz, .int .i64 0, .int .i64 0] 23)).heap.size (w.alloc (.cells #[.int .u8 1, .int .i64 sz, .int .i64 0, .int .i64 0] 23)) x → Below w.heap.size w x := fun x hb => (below_alloc (Below.refl w.heap.size w) _).trans (hb.mono (by simp))
  have HFin := Aside0.mk hfin
  clear hfin
  cases hF : isF ⟨1, sz, 0, 0⟩
  · go_enter Try.func3, Try.ntmps3
    go_wp2_with (go_at_call 18; refine (isF_any ⟨1, sz, 0, 0⟩ k0 _).mono ?_; rintro e w1 ⟨rfl, hb⟩; rw [hF]; have HB := Aside0.mk hb; clear hb)
    go_ret
    exact ⟨rfl, HFin.out _ HB.out⟩
  · have hs : 1 ≤ sz ∧ sz ≤ 1000000000 := by
      have h2 := hF
      simp [isF, in9] at h2
      omega
    obtain ⟨hs0, hs1⟩ := hs
    by_cases t0 : t < -sz
    · go_enter Try.func3, Try.ntmps3
      go_wp2_with (go_at_call 18; refine (isF_any ⟨1, sz, 0, 0⟩ k0 _).mono ?_; rintro e w1 ⟨rfl, hb⟩; rw [hF]; have HB := Aside0.mk hb; clear hb)
      go_ret
      exact ⟨rfl, HFin.out _ HB.out⟩
    · by_cases t1 : 562949953421312 < t
      · go_enter Try.func3, Try.ntmps3
        go_wp2_with (go_at_call 18; refine (isF_any ⟨1, sz, 0, 0⟩ k0 _).mono ?_; rintro e w1 ⟨rfl, hb⟩; rw [hF]; have HB := Aside0.mk hb; clear hb)
        go_ret
        exact ⟨rfl, HFin.out _ HB.out⟩
      · have HF := Aside0.mk (isF_FT (t := t) hF (.inr ⟨rfl, by omega⟩) (by omega))
        go_enter Try.func3, Try.ntmps3
        go_wp2_with (go_at_call 18; refine (isF_any ⟨1, sz, 0, 0⟩ k0 _).mono ?_; rintro e w1 ⟨rfl, hb⟩; rw [hF]; have HB := Aside0.mk hb; clear hb)
        have K := Bx.all (k := 1) (sz := sz) (pd := 0) (gp := 0) (w := w) (x := w1.drew) (Bx.step ⟨blk_below (heap_alloc_new w _) HB.out, HFin.out _ HB.out⟩ (below_drew (Below.refl w1.heap.size w1)))
        go_region_held3 (fun x => x.cell? ⟨w.heap.size, 0, none⟩ = some (.int .u8 1) ∧ x.cell? ⟨w.heap.size, 1, none⟩ = some (.int .i64 sz) ∧ x.cell? ⟨w.heap.size, 2, none⟩ = some (.int .i64 0) ∧ x.cell? ⟨w.heap.size, 3, none⟩ = some (.int .i64 0) ∧ Aside0 (Bx 1 sz 0 0 w x)) (first | exact K | assumption)
          (first
          | (go_at_call 21; refine (winAssign_any ⟨1, sz, 0, 0⟩ t HF.out _).mono ?_; rintro e w2 ⟨v_, rfl, hR, hb⟩; have K2 := Bx.all (K.2.2.2.2.out.step hb); obtain ⟨A_, c_, hv_, hc_, hC_⟩ := reads_sp hR; subst hv_; have HC := Aside0.mk hc_; have HCC := Aside0.mk hC_; clear hb hR hc_ hC_)
          | (go_at_call 20; refine (winSpans_any A_ c_ (placed ⟨1, sz, 0, 0⟩ t) _ HCC.out HC.out (by have := placed_len (t := t) HF.out.s; omega)).mono ?_; rintro e w3 ⟨v_, rfl, hR, hb⟩; have K3 := Bx.all (K2.2.2.2.2.out.step hb); obtain ⟨B_, d_, hv_, hc_, hC_⟩ := reads_sp hR; subst hv_; have HD := Aside0.mk hc_; have HDC := Aside0.mk hC_; clear hb hR hc_ hC_)
          | (go_at_call 22; refine (winPlaced_any ⟨1, sz, 0, 0⟩ t HF.out _).mono ?_; rintro e w4 ⟨v_, rfl, hR, hb⟩; have K4 := Bx.all (K3.2.2.2.2.out.step hb); have HDD := Aside0.mk (Kd.C_below HDC.out hb); obtain ⟨C_, c4_, hv_, hc_, hC_⟩ := reads_sp hR; subst hv_; have HE := Aside0.mk hc_; have HEC := Aside0.mk hC_; clear hb hR hc_ hC_)
          | (go_at_call 19; refine (sameSpans_any B_ d_ _ C_ c4_ _ _ HDD.out HD.out HEC.out HE.out).mono ?_; rintro e w5 ⟨rfl, hdr⟩; have K5 := Bx.all (K4.2.2.2.2.out.step hdr.below); rw [show decide (placed ⟨1, sz, 0, 0⟩ t = placed ⟨1, sz, 0, 0⟩ t) = true from by simp]; clear hdr)
          | (go_at_call 23; refine (awake_any _).mono ?_; rintro e w6 ⟨rfl, hb⟩; have K6 := Bx.all (K5.2.2.2.2.out.step hb); clear hb))
        all_goals
          go_wp2
          go_ret
          exact ⟨rfl, K6.2.2.2.2.out.2⟩
end Go.Proofs.Ytdifeleddhefnaa
