/- The walk of FnWinDefault. -/
import Derived.Test.YtdifeleddhefnaaDef
import Derived.Test.YtdifeleddhefnaaLawA
import Derived.Deep.RegionHeld3
set_option linter.unusedVariables false
set_option linter.unusedSimpArgs false
namespace Go.Proofs.Ytdifeleddhefnaa
open Go.RowKit Go.Proofs.YtdifeleddhefnaaW.PrintWords

theorem eqFn_zero (k sz pd gp : Int) : eqFn ⟨0, 0, 0, 0⟩ ⟨k, sz, pd, gp⟩ = (k == 0) := by
  by_cases h : k = 0
  · subst h; rfl
  · have h' : ¬ 0 = k := fun e => h e.symm
    have e1 : ((0 : Int) == k) = false := beq_eq_false_iff_ne.mpr h'
    have e2 : (k == (0 : Int)) = false := beq_eq_false_iff_ne.mpr h
    simp [eqFn, e1, e2]
theorem in9_0 : In9 0 := ⟨by decide, by decide⟩
set_option maxRecDepth 100000 in
set_option maxHeartbeats 4000000 in
theorem winDefault_walk (k sz pd gp : Int) (w0 : (Lit.int .u8 k).wf = true) (w1 : (Lit.int .i64 sz).wf = true) (w2 : (Lit.int .i64 pd).wf = true) (w3 : (Lit.int .i64 gp).wf = true) (w : World) :
    Calls Try.prog 13 #[.agg #[.int .u8 k, .int .i64 sz, .int .i64 pd, .int .i64 gp]] w fun e w' => e = .returned (.bool true) ∧ Below w.heap.size w w' := by
  have k0 := (u8_bd' w0).1
  clear w0 w1 w2 w3
  have hfin : ∀ x, Below (w.alloc (.cells #[.int .u8 k, .int .i64 sz, .int .i64 pd, .int .i64 gp] 23)).heap.size (w.alloc (.cells #[.int .u8 k, .int .i64 sz, .int .i64 pd, .int .i64 gp] 23)) x → Below w.heap.size w x := fun x hb => (below_alloc (Below.refl w.heap.size w) _).trans (hb.mono (by simp))
  have HFin := Aside0.mk hfin
  clear hfin
  cases hF : isF ⟨k, sz, pd, gp⟩
  · go_enter Try.func13, Try.ntmps13
    go_wp2_with (go_at_call 18; refine (isF_any ⟨k, sz, pd, gp⟩ k0 _).mono ?_; rintro e w1 ⟨rfl, hb⟩; rw [hF]; have HB := Aside0.mk hb; clear hb)
    go_ret
    exact ⟨rfl, HFin.out _ HB.out⟩
  · have HF := Aside0.mk (isF_FT (t := 0) hF (by omega) (by omega))
    obtain ⟨k3, _, _, _⟩ := isF_gap hF
    have KR := Aside0.mk (And.intro k0 k3)
    have hz : ∃ b, Aside0 (eqFn ⟨0, 0, 0, 0⟩ ⟨k, sz, pd, gp⟩ = b ∧ (k == 0) = b) := ⟨k == 0, ⟨⟨eqFn_zero k sz pd gp, rfl⟩⟩⟩
    obtain ⟨b_, hb_⟩ := hz
    have hkb := hb_.out.2
    go_enter Try.func13, Try.ntmps13
    go_wp2_with (first
      | (go_at_call 18; refine (isF_any ⟨k, sz, pd, gp⟩ k0 _).mono ?_; rintro e w1 ⟨rfl, hb⟩; rw [hF]; obtain ⟨x0, x1, x2, x3, K1⟩ := Bx.all (k := k) (sz := sz) (pd := pd) (gp := gp) (w := w) (x := w1) ⟨blk_below (heap_alloc_new w _) hb, HFin.out _ hb⟩; clear hb)
      | (go_at_call 38; refine (winDefault_any _).mono ?_; rintro e_ w2 ⟨rfl, hb⟩; have K2 := Bx.all (K1.out.step hb); clear x0 x1 x2 x3 hb))
    have K0 : w2.drew.cell? ⟨w.heap.size, 0, none⟩ = some (.int .u8 k) ∧ w2.drew.cell? ⟨w.heap.size, 1, none⟩ = some (.int .i64 sz) ∧ w2.drew.cell? ⟨w.heap.size, 2, none⟩ = some (.int .i64 pd) ∧ w2.drew.cell? ⟨w.heap.size, 3, none⟩ = some (.int .i64 gp) ∧ Aside0 (Bx k sz pd gp w w2.drew) := Bx.step2 (below_drew (Below.refl _ _)) K2
    go_region_held3 (fun z => z.cell? ⟨w.heap.size, 0, none⟩ = some (.int .u8 k) ∧ z.cell? ⟨w.heap.size, 1, none⟩ = some (.int .i64 sz) ∧ z.cell? ⟨w.heap.size, 2, none⟩ = some (.int .i64 pd) ∧ z.cell? ⟨w.heap.size, 3, none⟩ = some (.int .i64 gp) ∧ Aside0 (Bx k sz pd gp w z)) (first | exact K | exact K0 | assumption)
      (first
      | (go_at_call 39; refine (winFnEqual_any _ _ _ _ _ _ _ _ in9_0 in9_0 in9_0 HF.out.s HF.out.p HF.out.g ⟨by decide, by decide⟩ KR.out _).mono ?_; rintro e_ w3 ⟨rfl, hb⟩; rw [hb_.out.1]; have K : w3.cell? ⟨w.heap.size, 0, none⟩ = some (.int .u8 k) ∧ w3.cell? ⟨w.heap.size, 1, none⟩ = some (.int .i64 sz) ∧ w3.cell? ⟨w.heap.size, 2, none⟩ = some (.int .i64 pd) ∧ w3.cell? ⟨w.heap.size, 3, none⟩ = some (.int .i64 gp) ∧ Aside0 (Bx k sz pd gp w w3) := Bx.step2 hb (by assumption); clear hb)
      | (go_at_call 23; refine (awake_any _).mono ?_; rintro e_ w4 ⟨rfl, hb⟩; have K4 : w4.cell? ⟨w.heap.size, 0, none⟩ = some (.int .u8 k) ∧ w4.cell? ⟨w.heap.size, 1, none⟩ = some (.int .i64 sz) ∧ w4.cell? ⟨w.heap.size, 2, none⟩ = some (.int .i64 pd) ∧ w4.cell? ⟨w.heap.size, 3, none⟩ = some (.int .i64 gp) ∧ Aside0 (Bx k sz pd gp w w4) := Bx.step2 hb (by assumption); have K := K4; clear hb))
    all_goals
      go_wp2_with fail
      go_ret
      exact ⟨rfl, K4.2.2.2.2.out.2⟩
end Go.Proofs.Ytdifeleddhefnaa
