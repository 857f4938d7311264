/- The walks of FnWinPlaced and FnWinBefore. -/
import Derived.Test.YtdifeleddhefnaaAwake
import Derived.Test.YtdifeleddhefnaaIsf
import Derived.Deep.RegionHeld3
set_option linter.unusedVariables false
set_option linter.unusedSimpArgs false
namespace Go.Proofs.Ytdifeleddhefnaa
open Go.RowKit Go.Proofs.YtdifeleddhefnaaW.PrintWords

theorem i64_bd' {n : Int} (h : (Lit.int .i64 n).wf = true) : -9223372036854775808 ≤ n ∧ n ≤ 9223372036854775807 := by
  have hmin : IntKind.i64.min = -9223372036854775808 := rfl
  have hmax : IntKind.i64.max = 9223372036854775807 := rfl
  simp only [Lit.wf, Bool.and_eq_true, decide_eq_true_eq] at h
  omega
theorem u8_bd' {n : Int} (h : (Lit.int .u8 n).wf = true) : 0 ≤ n ∧ n ≤ 255 := by
  have hmin : IntKind.u8.min = 0 := rfl
  have hmax : IntKind.u8.max = 255 := rfl
  simp only [Lit.wf, Bool.and_eq_true, decide_eq_true_eq] at h
  omega
theorem in9_bd {n : Int} {b : Bool} (h : in9 n b = true) : In9 n := by
  unfold In9
  cases b <;> simp [in9] at h <;> omega
theorem in9_pos {n : Int} {b : Bool} (h : in9 n b = true) (hb : b = true) : 1 ≤ n := by
  subst hb
  simp [in9] at h
  omega
theorem isF_FT {k sz pd gp t : Int} (h : isF ⟨k, sz, pd, gp⟩ = true) (h1 : 0 ≤ t ∨ (k = 1 ∧ -sz ≤ t)) (h2 : t ≤ 600000000000000) : FT ⟨k, sz, pd, gp⟩ t := by
  simp only [isF, Bool.and_eq_true] at h
  obtain ⟨h3, hs, hp, hg, hd⟩ := h
  refine ⟨in9_bd hs, in9_bd hp, in9_bd hg, ?_, ?_, ?_, h2⟩
  · intro (e : k = 1)
    have := in9_pos hs (by simp [e])
    exact ⟨this, by show -sz ≤ t; omega⟩
  · intro (e : k = 2)
    exact ⟨in9_pos hs (by simp [e]), in9_pos hp (by simp [e]), by omega⟩
  · intro (e : k = 3)
    show 0 ≤ t
    omega
/-- A boxed function on windows, as a call has it. -/
def Bx (k sz pd gp : Int) (w x : World) : Prop := x.heap[w.heap.size]? = some (.cells #[.int .u8 k, .int .i64 sz, .int .i64 pd, .int .i64 gp] 23 (0, 0)) ∧ Below w.heap.size w x
theorem Bx.all {k sz pd gp : Int} {w x : World} (h : Bx k sz pd gp w x) : x.cell? ⟨w.heap.size, 0, none⟩ = some (.int .u8 k) ∧ x.cell? ⟨w.heap.size, 1, none⟩ = some (.int .i64 sz) ∧ x.cell? ⟨w.heap.size, 2, none⟩ = some (.int .i64 pd) ∧ x.cell? ⟨w.heap.size, 3, none⟩ = some (.int .i64 gp) ∧ Aside0 (Bx k sz pd gp w x) :=
  ⟨(blk_cell h.1 0).trans rfl, (blk_cell h.1 1).trans rfl, (blk_cell h.1 2).trans rfl, (blk_cell h.1 3).trans rfl, ⟨h⟩⟩
theorem Bx.step {k sz pd gp : Int} {w x y : World} (h : Bx k sz pd gp w x) (hb : Below x.heap.size x y) : Bx k sz pd gp w y :=
  ⟨blk_below h.1 hb, below_then h.2 h.2.size hb⟩
set_option maxRecDepth 100000 in
set_option maxHeartbeats 2000000 in
theorem winPlaced_walk (k sz pd gp t : Int) (w0 : (Lit.int .u8 k).wf = true) (w1 : (Lit.int .i64 sz).wf = true) (w2 : (Lit.int .i64 pd).wf = true) (w3 : (Lit.int .i64 gp).wf = true) (w4 : (Lit.int .i64 t).wf = true) (w : World) :
    Calls Try.prog 5 #[.agg #[.int .u8 k, .int .i64 sz, .int .i64 pd, .int .i64 gp], .int .i64 t] w fun e w' => e = .returned (.bool true) ∧ Below w.heap.size w w' := by
  have k0 := (u8_bd' w0).1
  clear w0 w1 w2 w3 w4
  have hfin : ∀ x, Below (w.alloc (.cells #[.int .u8 k, .int .i64 sz, .int .i64 pd, .int .i64 gp] 23)).heap.size (w.alloc (.cells #[.int .u8 k, .int .i64 sz, .int .i64 pd, .int .i64 gp] 23)) x → Below w.heap.size w x := fun x hb => (below_alloc (Below.refl w.heap.size w) _).trans (hb.mono (by simp))
  have HFin := Aside0.mk hfin
  clear hfin
  cases hF : isF ⟨k, sz, pd, gp⟩
  · go_enter Try.func5, Try.ntmps5
    go_wp2_with (go_at_call 18; refine (isF_any ⟨k, sz, pd, gp⟩ k0 _).mono ?_; rintro e w1 ⟨rfl, hb⟩; rw [hF]; have HB := Aside0.mk hb; clear hb)
    go_ret
    exact ⟨rfl, HFin.out _ HB.out⟩
  · by_cases t0 : t < 0
    · go_enter Try.func5, Try.ntmps5
      go_wp2_with (go_at_call 18; refine (isF_any ⟨k, sz, pd, gp⟩ k0 _).mono ?_; rintro e w1 ⟨rfl, hb⟩; rw [hF]; have HB := Aside0.mk hb; clear hb)
      go_ret
      exact ⟨rfl, HFin.out _ HB.out⟩
    · by_cases t1 : 562949953421312 < t
      · go_enter Try.func5, Try.ntmps5
        go_wp2_with (go_at_call 18; refine (isF_any ⟨k, sz, pd, gp⟩ k0 _).mono ?_; rintro e w1 ⟨rfl, hb⟩; rw [hF]; have HB := Aside0.mk hb; clear hb)
        go_ret
        exact ⟨rfl, HFin.out _ HB.out⟩
      · have HF := Aside0.mk (isF_FT (t := t) hF (by omega) (by omega))
        go_enter Try.func5, Try.ntmps5
        go_wp2_with (go_at_call 18; refine (isF_any ⟨k, sz, pd, gp⟩ k0 _).mono ?_; rintro e w1 ⟨rfl, hb⟩; rw [hF]; have HB := Aside0.mk hb; clear hb)
        have K := Bx.all (k := k) (sz := sz) (pd := pd) (gp := gp) (w := w) (x := w1.drew) (Bx.step ⟨blk_below (heap_alloc_new w _) HB.out, HFin.out _ HB.out⟩ (below_drew (Below.refl w1.heap.size w1)))
        go_region_held3 (fun x => x.cell? ⟨w.heap.size, 0, none⟩ = some (.int .u8 k) ∧ x.cell? ⟨w.heap.size, 1, none⟩ = some (.int .i64 sz) ∧ x.cell? ⟨w.heap.size, 2, none⟩ = some (.int .i64 pd) ∧ x.cell? ⟨w.heap.size, 3, none⟩ = some (.int .i64 gp) ∧ Aside0 (Bx k sz pd gp w x)) (first | exact K | assumption)
          (first
          | (go_at_call 21; refine (winAssign_any ⟨k, sz, pd, gp⟩ t HF.out _).mono ?_; rintro e w2 ⟨v_, rfl, hR, hb⟩; have K2 := Bx.all (K.2.2.2.2.out.step hb); obtain ⟨A_, c_, hv_, hc_, hC_⟩ := reads_sp hR; subst hv_; have HC := Aside0.mk hc_; have HCC := Aside0.mk hC_; clear hb hR hc_ hC_)
          | (go_at_call 20; refine (winSpans_any A_ c_ (placed ⟨k, sz, pd, gp⟩ t) _ HCC.out HC.out (by have := placed_len (t := t) HF.out.s; omega)).mono ?_; rintro e w3 ⟨v_, rfl, hR, hb⟩; have K3 := Bx.all (K2.2.2.2.2.out.step hb); obtain ⟨B_, d_, hv_, hc_, hC_⟩ := reads_sp hR; subst hv_; have HD := Aside0.mk hc_; have HDC := Aside0.mk hC_; clear hb hR hc_ hC_)
          | (go_at_call 22; refine (winPlaced_any ⟨k, sz, pd, gp⟩ t HF.out _).mono ?_; rintro e w4 ⟨v_, rfl, hR, hb⟩; have K4 := Bx.all (K3.2.2.2.2.out.step hb); have HDD := Aside0.mk (Kd.C_below HDC.out hb); obtain ⟨C_, c4_, hv_, hc_, hC_⟩ := reads_sp hR; subst hv_; have HE := Aside0.mk hc_; have HEC := Aside0.mk hC_; clear hb hR hc_ hC_)
          | (go_at_call 19; refine (sameSpans_any B_ d_ _ C_ c4_ _ _ HDD.out HD.out HEC.out HE.out).mono ?_; rintro e w5 ⟨rfl, hdr⟩; have K5 := Bx.all (K4.2.2.2.2.out.step hdr.below); rw [show decide (placed ⟨k, sz, pd, gp⟩ t = placed ⟨k, sz, pd, gp⟩ t) = true from by simp]; clear hdr)
          | (go_at_call 23; refine (awake_any _).mono ?_; rintro e w6 ⟨rfl, hb⟩; have K6 := Bx.all (K5.2.2.2.2.out.step hb); clear hb))
        all_goals
          go_wp2
          go_ret
          exact ⟨rfl, K6.2.2.2.2.out.2⟩
end Go.Proofs.Ytdifeleddhefnaa
