/- The walk of FnWinFunctions. -/
import Derived.Test.YtdifeleddhefnaaFtx
import Derived.Test.YtdifeleddhefnaaLawW
import Derived.Test.YtdifeleddhefnaaPl
import Derived.Test.YtdifeleddhefnaaStr
import Derived.Test.YtdifeleddhefnaaCod
import Derived.Test.YtdifeleddhefnaaAwake
import Derived.Deep.RegionHeld3
set_option linter.unusedVariables false
set_option linter.unusedSimpArgs false
namespace Go.Proofs.Ytdifeleddhefnaa
open Go.RowKit Go.Proofs.YtdifeleddhefnaaW.PrintWords

theorem eqA23 (d : Nat) (w : World) (x0 y0 x1 y1 x2 y2 x3 y3 : Int) :
    (Op.equalIn (d + 2) 23 (.agg #[.int .u8 x0, .int .i64 x1, .int .i64 x2, .int .i64 x3]) (.agg #[.int .u8 y0, .int .i64 y1, .int .i64 y2, .int .i64 y3])).run Try.prog w = .ok (x0 == y0 && (x1 == y1 && (x2 == y2 && (x3 == y3)))) w := by
  refine eqA_of Try.underlying23 (by kernel_rfl) ?_
  refine eqf_cons (by rfl) (by go_simp; rfl) (by go_simp; rfl) (by go_simp) ?_
  refine eqf_cons (by rfl) (by go_simp; rfl) (by go_simp; rfl) (by go_simp) ?_
  refine eqf_cons (by rfl) (by go_simp; rfl) (by go_simp; rfl) (by go_simp) ?_
  exact eqf_last (by rfl) (by go_simp; rfl) (by go_simp; rfl) (by go_simp)
theorem eqWf (k sz pd gp k2 sz2 pd2 gp2 : Int) (b : Bool) (hb : decide ((⟨k, sz, pd, gp⟩ : WF) = ⟨k2, sz2, pd2, gp2⟩) = b) : ∀ W : World, (Op.equalIn 10000 23 (.agg #[.int .u8 k, .int .i64 sz, .int .i64 pd, .int .i64 gp]) (.agg #[.int .u8 k2, .int .i64 sz2, .int .i64 pd2, .int .i64 gp2])).run Try.prog W = .ok b W := by
  intro W
  rw [eqA23]
  congr 1
  rw [← hb]
  cases h : (k == k2 && (sz == sz2 && (pd == pd2 && gp == gp2)))
  · symm
    rw [decide_eq_false_iff_not]
    intro e
    injection e with e1 e2 e3 e4
    subst e1 e2 e3 e4
    simp at h
  · simp only [Bool.and_eq_true, beq_iff_eq] at h
    obtain ⟨rfl, rfl, rfl, rfl⟩ := h
    simp
theorem isF_v (k sz pd gp : Int) (h0 : 0 ≤ k) (w : World) : Calls Try.prog 18 #[.agg #[.int .u8 k, .int .i64 sz, .int .i64 pd, .int .i64 gp]] w fun e w' => e = .returned (.bool (isF ⟨k, sz, pd, gp⟩)) ∧ Below w.heap.size w w' := isF_any ⟨k, sz, pd, gp⟩ h0 w
/-- What a call of 'FnWinFunctions' has boxed. -/
def BGf (k sz pd gp k2 sz2 pd2 gp2 : Int) (w z : World) : Prop := z.heap[w.heap.size]? = some (.cells #[.int .u8 k, .int .i64 sz, .int .i64 pd, .int .i64 gp] 23 (0, 0)) ∧ z.heap[w.heap.size + 1]? = some (.cells #[.int .u8 k2, .int .i64 sz2, .int .i64 pd2, .int .i64 gp2] 23 (0, 0)) ∧ Below w.heap.size w z
theorem BGf.all {k sz pd gp k2 sz2 pd2 gp2 : Int} {w z : World} (h : BGf k sz pd gp k2 sz2 pd2 gp2 w z) : z.cell? ⟨w.heap.size, 0, none⟩ = some (.int .u8 k) ∧ z.cell? ⟨w.heap.size, 1, none⟩ = some (.int .i64 sz) ∧ z.cell? ⟨w.heap.size, 2, none⟩ = some (.int .i64 pd) ∧ z.cell? ⟨w.heap.size, 3, none⟩ = some (.int .i64 gp) ∧ z.cell? ⟨w.heap.size + 1, 0, none⟩ = some (.int .u8 k2) ∧ z.cell? ⟨w.heap.size + 1, 1, none⟩ = some (.int .i64 sz2) ∧ z.cell? ⟨w.heap.size + 1, 2, none⟩ = some (.int .i64 pd2) ∧ z.cell? ⟨w.heap.size + 1, 3, none⟩ = some (.int .i64 gp2) ∧ Aside0 (BGf k sz pd gp k2 sz2 pd2 gp2 w z) :=
  ⟨(blk_cell h.1 0).trans rfl, (blk_cell h.1 1).trans rfl, (blk_cell h.1 2).trans rfl, (blk_cell h.1 3).trans rfl, (blk_cell h.2.1 0).trans rfl, (blk_cell h.2.1 1).trans rfl, (blk_cell h.2.1 2).trans rfl, (blk_cell h.2.1 3).trans rfl, ⟨h⟩⟩
theorem BGf.step {k sz pd gp k2 sz2 pd2 gp2 : Int} {w z z' : World} (hb : Below z.heap.size z z') (h : z.cell? ⟨w.heap.size, 0, none⟩ = some (.int .u8 k) ∧ z.cell? ⟨w.heap.size, 1, none⟩ = some (.int .i64 sz) ∧ z.cell? ⟨w.heap.size, 2, none⟩ = some (.int .i64 pd) ∧ z.cell? ⟨w.heap.size, 3, none⟩ = some (.int .i64 gp) ∧ z.cell? ⟨w.heap.size + 1, 0, none⟩ = some (.int .u8 k2) ∧ z.cell? ⟨w.heap.size + 1, 1, none⟩ = some (.int .i64 sz2) ∧ z.cell? ⟨w.heap.size + 1, 2, none⟩ = some (.int .i64 pd2) ∧ z.cell? ⟨w.heap.size + 1, 3, none⟩ = some (.int .i64 gp2) ∧ Aside0 (BGf k sz pd gp k2 sz2 pd2 gp2 w z)) : z'.cell? ⟨w.heap.size, 0, none⟩ = some (.int .u8 k) ∧ z'.cell? ⟨w.heap.size, 1, none⟩ = some (.int .i64 sz) ∧ z'.cell? ⟨w.heap.size, 2, none⟩ = some (.int .i64 pd) ∧ z'.cell? ⟨w.heap.size, 3, none⟩ = some (.int .i64 gp) ∧ z'.cell? ⟨w.heap.size + 1, 0, none⟩ = some (.int .u8 k2) ∧ z'.cell? ⟨w.heap.size + 1, 1, none⟩ = some (.int .i64 sz2) ∧ z'.cell? ⟨w.heap.size + 1, 2, none⟩ = some (.int .i64 pd2) ∧ z'.cell? ⟨w.heap.size + 1, 3, none⟩ = some (.int .i64 gp2) ∧ Aside0 (BGf k sz pd gp k2 sz2 pd2 gp2 w z') :=
  BGf.all ⟨blk_below h.2.2.2.2.2.2.2.2.out.1 hb, blk_below h.2.2.2.2.2.2.2.2.out.2.1 hb, below_then h.2.2.2.2.2.2.2.2.out.2.2 h.2.2.2.2.2.2.2.2.out.2.2.size hb⟩
theorem BGf.start (k sz pd gp k2 sz2 pd2 gp2 : Int) (w : World) : BGf k sz pd gp k2 sz2 pd2 gp2 w ((w.alloc (.cells #[.int .u8 k, .int .i64 sz, .int .i64 pd, .int .i64 gp] 23)).alloc (.cells #[.int .u8 k2, .int .i64 sz2, .int .i64 pd2, .int .i64 gp2] 23)) := by
  refine ⟨blk_alloc (heap_alloc_new w _) _, ?_, below_alloc (below_alloc (Below.refl _ _) _) _⟩
  have h := heap_alloc_new (w.alloc (.cells #[.int .u8 k, .int .i64 sz, .int .i64 pd, .int .i64 gp] 23)) (.cells #[.int .u8 k2, .int .i64 sz2, .int .i64 pd2, .int .i64 gp2] 23)
  rw [World.size_alloc] at h
  exact h
set_option maxRecDepth 100000 in
set_option maxHeartbeats 8000000 in
theorem winFunctions_walk (k sz pd gp k2 sz2 pd2 gp2 : Int) (w0 : (Lit.int .u8 k).wf = true) (w1 : (Lit.int .i64 sz).wf = true) (w2 : (Lit.int .i64 pd).wf = true) (w3 : (Lit.int .i64 gp).wf = true) (v0 : (Lit.int .u8 k2).wf = true) (v1 : (Lit.int .i64 sz2).wf = true) (v2 : (Lit.int .i64 pd2).wf = true) (v3 : (Lit.int .i64 gp2).wf = true) (w : World) :
    Calls Try.prog 16 #[.agg #[.int .u8 k, .int .i64 sz, .int .i64 pd, .int .i64 gp], .agg #[.int .u8 k2, .int .i64 sz2, .int .i64 pd2, .int .i64 gp2]] w fun r w' => r = .returned (.bool true) ∧ Below w.heap.size w w' := by
  have k0 := (u8_bd' w0).1
  have k20 := (u8_bd' v0).1
  clear w0 w1 w2 w3 v0 v1 v2 v3
  have K0 := BGf.all (BGf.start k sz pd gp k2 sz2 pd2 gp2 w)
  cases hF : isF ⟨k, sz, pd, gp⟩
  · go_enter Try.func16, Try.ntmps16
    go_wp2_with ((go_at_call 18; (with_reducible refine (isF_v k sz pd gp k0 _).mono ?_); rintro r_ w1 ⟨rfl, hb⟩; rw [hF]; have K1 := BGf.step hb K0; have x0 := K1.1; have x4 := K1.2.2.2.2.1; have x5 := K1.2.2.2.2.2.1; have x6 := K1.2.2.2.2.2.2.1; have x7 := K1.2.2.2.2.2.2.2.1; clear hb))
    go_ret
    exact ⟨rfl, K1.2.2.2.2.2.2.2.2.out.2.2⟩
  cases hG : isF ⟨k2, sz2, pd2, gp2⟩
  · go_enter Try.func16, Try.ntmps16
    go_wp2_with (first | (go_at_call 18; (with_reducible refine (isF_v k2 sz2 pd2 gp2 k20 _).mono ?_); rintro r_ w2 ⟨rfl, hb⟩; rw [hG]; have K2 := BGf.step hb K1; clear x0 x4 x5 x6 x7; have x0 := K2.1; clear hb) | (go_at_call 18; (with_reducible refine (isF_v k sz pd gp k0 _).mono ?_); rintro r_ w1 ⟨rfl, hb⟩; rw [hF]; have K1 := BGf.step hb K0; have x0 := K1.1; have x4 := K1.2.2.2.2.1; have x5 := K1.2.2.2.2.2.1; have x6 := K1.2.2.2.2.2.2.1; have x7 := K1.2.2.2.2.2.2.2.1; clear hb))
    go_ret
    exact ⟨rfl, K2.2.2.2.2.2.2.2.2.out.2.2⟩
  have hf1 := isF_FT (t := 0) hF (.inl (by omega)) (by omega)
  have hf2 := isF_FT (t := 0) hG (.inl (by omega)) (by omega)
  obtain ⟨k3, hg1, hg0, hp0⟩ := isF_gap hF
  obtain ⟨k23, _, _, _⟩ := isF_gap hG
  have HF := Aside0.mk (And.intro hf1 hf2)
  have HK := Aside0.mk (show (0 ≤ k ∧ k ≤ 3) ∧ (0 ≤ k2 ∧ k2 ≤ 3) from ⟨⟨k0, k3⟩, ⟨k20, k23⟩⟩)
  have HGP := Aside0.mk hg1
  have HEQ := Aside0.mk (eqFn_isF hF hG k0 k20)
  obtain ⟨b, hb⟩ : ∃ b, decide ((⟨k, sz, pd, gp⟩ : WF) = ⟨k2, sz2, pd2, gp2⟩) = b := ⟨_, rfl⟩
  rw [hb] at HEQ
  have hE := eqWf k sz pd gp k2 sz2 pd2 gp2 b hb
  obtain ⟨T, hT⟩ : ∃ T, ftxt ⟨k, sz, pd, gp⟩ = T := ⟨_, rfl⟩
  have H45 := Aside0.mk (fun W => fnStr45_any ⟨k, sz, pd, gp⟩ HF.out.1.s HF.out.1.p HF.out.1.g W)
  have H46 := Aside0.mk (fun W => txt46_any ⟨k, sz, pd, gp⟩ 0 HF.out.1 W HGP.out)
  have H47 := Aside0.mk (fun W => coder_any k sz pd gp HF.out.1.s HF.out.1.p HF.out.1.g HK.out.1 W)
  rw [hT] at H45 H46
  clear hf1 hf2 k3 hg1 hg0 hp0 k23 hb hT
  cases b
  all_goals
    by_cases hk : k = 0
  all_goals
    have hkk : (k == 0) = decide (k = 0) := rfl
    first
    | (have hkz : (k == 0) = true := beq_iff_eq.2 hk; have hcd := Aside0.mk (show cod k = ⟨#[71, 87, 67]⟩ by unfold cod; rw [if_pos hk]))
    | (have hkz : (k == 0) = false := beq_eq_false_iff_ne.2 hk; have hcd := Aside0.mk (show cod k = ⟨#[73, 87, 67]⟩ by unfold cod; rw [if_neg hk]))
    rw [hcd.out] at H47
    clear hk hkk hcd
    go_enter Try.func16, Try.ntmps16
    go_wp2_with (first | (go_at_call 18; (with_reducible refine (isF_v k2 sz2 pd2 gp2 k20 _).mono ?_); rintro r_ w2 ⟨rfl, hb⟩; rw [hG]; have K2 := BGf.step hb K1; clear x0 x4 x5 x6 x7; have x0 := K2.1; clear hb) | (go_at_call 18; (with_reducible refine (isF_v k sz pd gp k0 _).mono ?_); rintro r_ w1 ⟨rfl, hb⟩; rw [hF]; have K1 := BGf.step hb K0; have x0 := K1.1; have x4 := K1.2.2.2.2.1; have x5 := K1.2.2.2.2.2.1; have x6 := K1.2.2.2.2.2.2.1; have x7 := K1.2.2.2.2.2.2.2.1; clear hb))
  all_goals
    have HEQ2 := HEQ.out
    clear HEQ2
    have KA := BGf.step (below_drew (Below.refl _ _)) K2
    clear K0 K1 x0 hkz
    go_region_held3 (fun z => z.cell? ⟨w.heap.size, 0, none⟩ = some (.int .u8 k) ∧ z.cell? ⟨w.heap.size, 1, none⟩ = some (.int .i64 sz) ∧ z.cell? ⟨w.heap.size, 2, none⟩ = some (.int .i64 pd) ∧ z.cell? ⟨w.heap.size, 3, none⟩ = some (.int .i64 gp) ∧ z.cell? ⟨w.heap.size + 1, 0, none⟩ = some (.int .u8 k2) ∧ z.cell? ⟨w.heap.size + 1, 1, none⟩ = some (.int .i64 sz2) ∧ z.cell? ⟨w.heap.size + 1, 2, none⟩ = some (.int .i64 pd2) ∧ z.cell? ⟨w.heap.size + 1, 3, none⟩ = some (.int .i64 gp2) ∧ Aside0 (BGf k sz pd gp k2 sz2 pd2 gp2 w z)) (first | exact K | exact KA | assumption)
      (first
      | (go_at_call 39; refine (winFnEqual_any k sz pd gp k2 sz2 pd2 gp2 HF.out.1.s HF.out.1.p HF.out.1.g HF.out.2.s HF.out.2.p HF.out.2.g HK.out.1 HK.out.2 _).mono ?_; rintro r_ w3 ⟨rfl, hb⟩; rw [HEQ.out]; have K3 := BGf.step hb KA; have K := K3; clear hb)
      | (go_at_call 44; refine (stratEqual_any k sz pd gp k2 sz2 pd2 gp2 HF.out.1.s HF.out.1.p HF.out.1.g HF.out.2.s HF.out.2.p HF.out.2.g HK.out.1 HK.out.2 _).mono ?_; rintro r_ w4 ⟨rfl, hb⟩; rw [HEQ.out]; have K4 := BGf.step hb K3; have K := K4; clear hb)
      | (go_at_call 45; refine (H45.out _).mono ?_; rintro r_ w5 ⟨rfl, hb⟩; have K5 := BGf.step hb K4; have K := K5; clear hb)
      | (go_at_call 46; refine (H46.out _).mono ?_; rintro r_ w6 ⟨rfl, hb⟩; have K6 := BGf.step hb K5; have K := K6; clear hb)
      | (go_at_call 47; refine (H47.out _).mono ?_; rintro r_ w7 ⟨rfl, hb⟩; have K7 := BGf.step hb K6; have K := K7; clear hb)
      | (go_at_call 23; refine (awake_any _).mono ?_; rintro r_ w8 ⟨rfl, hb⟩; have K8 := BGf.step hb K7; have K := K8; clear hb))
  all_goals
    go_wp2
    go_ret
    exact ⟨rfl, K8.2.2.2.2.2.2.2.2.out.2.2⟩
end Go.Proofs.Ytdifeleddhefnaa
