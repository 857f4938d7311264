/- The walk of FnWinApart. -/
import Derived.Test.YtdifeleddhefnaaPl
import Derived.Test.YtdifeleddhefnaaEq
import Derived.Deep.RegionHeld3
import Derived.Deep.RegionWith
set_option linter.unusedVariables false
set_option linter.unusedSimpArgs false
namespace Go.Proofs.Ytdifeleddhefnaa
open Go.RowKit Go.Proofs.YtdifeleddhefnaaW.PrintWords

theorem placed_fix {sz t : Int} : placed ⟨1, sz, 0, 0⟩ t = [⟨false, fxs sz t, fxs sz t + sz⟩] := by unfold placed; rw [if_pos rfl]
theorem Bx.step2 {k sz pd gp : Int} {w x y : World} (hb : Below x.heap.size x y) (h : x.cell? ⟨w.heap.size, 0, none⟩ = some (.int .u8 k) ∧ x.cell? ⟨w.heap.size, 1, none⟩ = some (.int .i64 sz) ∧ x.cell? ⟨w.heap.size, 2, none⟩ = some (.int .i64 pd) ∧ x.cell? ⟨w.heap.size, 3, none⟩ = some (.int .i64 gp) ∧ Aside0 (Bx k sz pd gp w x)) : y.cell? ⟨w.heap.size, 0, none⟩ = some (.int .u8 k) ∧ y.cell? ⟨w.heap.size, 1, none⟩ = some (.int .i64 sz) ∧ y.cell? ⟨w.heap.size, 2, none⟩ = some (.int .i64 pd) ∧ y.cell? ⟨w.heap.size, 3, none⟩ = some (.int .i64 gp) ∧ Aside0 (Bx k sz pd gp w y) := Bx.all (Bx.step h.2.2.2.2.out hb)
/-- Two windows of one size, as they lie. -/
def Two (p : Addr) (a : Int) (q : Addr) (b sz : Int) (w x : World) : Prop :=
  (x.cell? p = some (.bool false) ∧ x.cell? ⟨p.block, p.off + 1, none⟩ = some (.int .i64 a) ∧ x.cell? ⟨p.block, p.off + 2, none⟩ = some (.int .i64 (a + sz))) ∧
  (x.cell? q = some (.bool false) ∧ x.cell? ⟨q.block, q.off + 1, none⟩ = some (.int .i64 b) ∧ x.cell? ⟨q.block, q.off + 2, none⟩ = some (.int .i64 (b + sz))) ∧ Below w.heap.size w x
theorem Two.mk' {p q : Addr} {a b sz : Int} {w x : World} (h0 : x.cell? p = some (.bool false)) (h1 : x.cell? ⟨p.block, p.off + 1, none⟩ = some (.int .i64 a)) (h2 : x.cell? ⟨p.block, p.off + 2, none⟩ = some (.int .i64 (a + sz)))
    (g0 : x.cell? q = some (.bool false)) (g1 : x.cell? ⟨q.block, q.off + 1, none⟩ = some (.int .i64 b)) (g2 : x.cell? ⟨q.block, q.off + 2, none⟩ = some (.int .i64 (b + sz))) (hb : Below w.heap.size w x) :
    x.cell? p = some (.bool false) ∧ x.cell? ⟨p.block, p.off + 1, none⟩ = some (.int .i64 a) ∧ x.cell? ⟨p.block, p.off + 2, none⟩ = some (.int .i64 (a + sz)) ∧ x.cell? q = some (.bool false) ∧ x.cell? ⟨q.block, q.off + 1, none⟩ = some (.int .i64 b) ∧ x.cell? ⟨q.block, q.off + 2, none⟩ = some (.int .i64 (b + sz)) ∧ Aside0 (Two p a q b sz w x) :=
  ⟨h0, h1, h2, g0, g1, g2, ⟨⟨⟨h0, h1, h2⟩, ⟨g0, g1, g2⟩, hb⟩⟩⟩
theorem Two.step2 {p q : Addr} {a b sz : Int} {w x y : World} (hb : Below x.heap.size x y) (h : x.cell? p = some (.bool false) ∧ x.cell? ⟨p.block, p.off + 1, none⟩ = some (.int .i64 a) ∧ x.cell? ⟨p.block, p.off + 2, none⟩ = some (.int .i64 (a + sz)) ∧ x.cell? q = some (.bool false) ∧ x.cell? ⟨q.block, q.off + 1, none⟩ = some (.int .i64 b) ∧ x.cell? ⟨q.block, q.off + 2, none⟩ = some (.int .i64 (b + sz)) ∧ Aside0 (Two p a q b sz w x)) :
    y.cell? p = some (.bool false) ∧ y.cell? ⟨p.block, p.off + 1, none⟩ = some (.int .i64 a) ∧ y.cell? ⟨p.block, p.off + 2, none⟩ = some (.int .i64 (a + sz)) ∧ y.cell? q = some (.bool false) ∧ y.cell? ⟨q.block, q.off + 1, none⟩ = some (.int .i64 b) ∧ y.cell? ⟨q.block, q.off + 2, none⟩ = some (.int .i64 (b + sz)) ∧ Aside0 (Two p a q b sz w y) := by
  obtain ⟨h0, h1, h2, g0, g1, g2, hT⟩ := h
  have st : ∀ {c : Addr} {v : Value}, x.cell? c = some v → y.cell? c = some v := fun hc => (hb.cell (World.block_lt_of_cell? x _ hc)).trans hc
  exact Two.mk' (st h0) (st h1) (st h2) (st g0) (st g1) (st g2) (below_then hT.out.2.2 hT.out.2.2.size hb)
set_option maxRecDepth 100000 in
set_option maxHeartbeats 2000000 in
theorem winApart_walk (sz a b : Int) (w0 : (Lit.int .i64 sz).wf = true) (w1 : (Lit.int .i64 a).wf = true) (w2 : (Lit.int .i64 b).wf = true) (w : World) :
    Calls Try.prog 12 #[.int .i64 sz, .int .i64 a, .int .i64 b] w fun e w' => e = .returned (.bool true) ∧ Below w.heap.size w w' := by
  have k0 : (0 : Int) ≤ 1 := by decide
  clear w0 w1 w2
  have hfin : ∀ x, Below (w.alloc (.cells #[.int .u8 1, .int .i64 sz, .int .i64 0, .int .i64 0] 23)).heap.size (w.alloc (.cells #[.int .u8 1, .int .i64 sz, .int .i64 0, .int .i64 0] 23)) x → Below w.heap.size w x := fun x hb => (below_alloc (Below.refl w.heap.size w) _).trans (hb.mono (by simp))
  have HFin := Aside0.mk hfin
  clear hfin
  cases hF : isF ⟨1, sz, 0, 0⟩
  · go_enter Try.func12, Try.ntmps12
    go_wp2_with (go_at_call 18; refine (isF_any ⟨1, sz, 0, 0⟩ k0 _).mono ?_; rintro e w1 ⟨rfl, hb⟩; rw [hF]; have HB := Aside0.mk hb; clear hb)
    go_ret
    exact ⟨rfl, HFin.out _ HB.out⟩
  · by_cases t0 : a < 0
    · go_enter Try.func12, Try.ntmps12
      go_wp2_with (go_at_call 18; refine (isF_any ⟨1, sz, 0, 0⟩ k0 _).mono ?_; rintro e w1 ⟨rfl, hb⟩; rw [hF]; have HB := Aside0.mk hb; clear hb)
      go_ret
      exact ⟨rfl, HFin.out _ HB.out⟩
    · by_cases t1 : b < a
      · go_enter Try.func12, Try.ntmps12
        go_wp2_with (go_at_call 18; refine (isF_any ⟨1, sz, 0, 0⟩ k0 _).mono ?_; rintro e w1 ⟨rfl, hb⟩; rw [hF]; have HB := Aside0.mk hb; clear hb)
        go_ret
        exact ⟨rfl, HFin.out _ HB.out⟩
      · by_cases t2 : 562949953421312 < b
        · go_enter Try.func12, Try.ntmps12
          go_wp2_with (go_at_call 18; refine (isF_any ⟨1, sz, 0, 0⟩ k0 _).mono ?_; rintro e w1 ⟨rfl, hb⟩; rw [hF]; have HB := Aside0.mk hb; clear hb)
          go_ret
          exact ⟨rfl, HFin.out _ HB.out⟩
        · have HFa := Aside0.mk (isF_FT (t := a) hF (by omega) (by omega))
          have HFb := Aside0.mk (isF_FT (t := b) hF (by omega) (by omega))
          obtain ⟨hs0, hs1⟩ := HFa.out.s
          have hz : 1 ≤ sz := (HFa.out.f1 rfl).1
          simp only at hs0 hs1
          have hap := fxs_apart (a := a) (b := b) hz (by omega)
          obtain ⟨u_, hu⟩ : ∃ u, Aside0 (fxs sz a = u) := ⟨_, ⟨rfl⟩⟩
          obtain ⟨v_, hv⟩ : ∃ v, Aside0 (fxs sz b = v) := ⟨_, ⟨rfl⟩⟩
          rw [hu.out, hv.out] at hap
          rcases hap with he | he
          · have hsame := Aside0.mk (show sameW ⟨false, u_, u_ + sz⟩ ⟨false, v_, v_ + sz⟩ = true by rw [he]; simp [sameW])
            clear he
            go_enter Try.func12, Try.ntmps12
            go_wp2_with (go_at_call 18; refine (isF_any ⟨1, sz, 0, 0⟩ k0 _).mono ?_; rintro e w1 ⟨rfl, hb⟩; rw [hF]; have HB := Aside0.mk hb; clear hb)
            have K := Bx.all (k := 1) (sz := sz) (pd := 0) (gp := 0) (w := w) (x := w1.drew) (Bx.step ⟨blk_below (heap_alloc_new w _) HB.out, HFin.out _ HB.out⟩ (below_drew (Below.refl w1.heap.size w1)))
            go_region_held3 (fun x => x.cell? ⟨w.heap.size, 0, none⟩ = some (.int .u8 1) ∧ x.cell? ⟨w.heap.size, 1, none⟩ = some (.int .i64 sz) ∧ x.cell? ⟨w.heap.size, 2, none⟩ = some (.int .i64 0) ∧ x.cell? ⟨w.heap.size, 3, none⟩ = some (.int .i64 0) ∧ Aside0 (Bx 1 sz 0 0 w x)) (first | exact K | assumption)
              (first
              | (go_at_call 21; refine (winAssign_any ⟨1, sz, 0, 0⟩ _ ?ft _).mono ?_; (case ft => first | exact HFa.out | exact HFb.out); rintro e_ w2 ⟨r_, rfl, hR, hb⟩; rw [placed_fix] at hR; (first | rw [hu.out] at hR | rw [hv.out] at hR); first | (have h2 := HA1; have K3 : w2.cell? ⟨w.heap.size, 0, none⟩ = some (.int .u8 1) ∧ w2.cell? ⟨w.heap.size, 1, none⟩ = some (.int .i64 sz) ∧ w2.cell? ⟨w.heap.size, 2, none⟩ = some (.int .i64 0) ∧ w2.cell? ⟨w.heap.size, 3, none⟩ = some (.int .i64 0) ∧ Aside0 (Bx 1 sz 0 0 w w2) := Bx.step2 hb (by assumption); have HA2 := Aside0.mk (Kd.C_below HA1.out hb); obtain ⟨B_, d_, hv_, hc_, hC_⟩ := reads_sp hR; subst hv_; have HD := Aside0.mk hc_; have HB2 := Aside0.mk hC_; clear h2 HA1 hb hR hc_ hC_) | (have K2 : w2.cell? ⟨w.heap.size, 0, none⟩ = some (.int .u8 1) ∧ w2.cell? ⟨w.heap.size, 1, none⟩ = some (.int .i64 sz) ∧ w2.cell? ⟨w.heap.size, 2, none⟩ = some (.int .i64 0) ∧ w2.cell? ⟨w.heap.size, 3, none⟩ = some (.int .i64 0) ∧ Aside0 (Bx 1 sz 0 0 w w2) := Bx.step2 hb (by assumption); obtain ⟨A_, c_, hv_, hc_, hC_⟩ := reads_sp hR; subst hv_; have HC := Aside0.mk hc_; have HA1 := Aside0.mk hC_; clear hb hR hc_ hC_)))
            all_goals
              obtain ⟨p_, ha_, x0, x1, x2⟩ := atSp HA2.out 0 (by simp)
              subst ha_
              obtain ⟨q_, hb_, y0, y1, y2⟩ := atSp HB2.out 0 (by simp)
              subst hb_
              simp only [rdSp, List.getD_cons_zero, Nat.zero_mul] at x0 x1 x2 y0 y1 y2
              rw [show p_.add 0 = p_ from rfl] at x0 x1 x2
              rw [show q_.add 0 = q_ from rfl] at y0 y1 y2
              have T0 := Two.mk' x0 x1 x2 y0 y1 y2 K3.2.2.2.2.out.2
              have T : w2.drew.cell? p_ = some (.bool false) ∧ w2.drew.cell? ⟨p_.block, p_.off + 1, none⟩ = some (.int .i64 u_) ∧ w2.drew.cell? ⟨p_.block, p_.off + 2, none⟩ = some (.int .i64 (u_ + sz)) ∧ w2.drew.cell? q_ = some (.bool false) ∧ w2.drew.cell? ⟨q_.block, q_.off + 1, none⟩ = some (.int .i64 v_) ∧ w2.drew.cell? ⟨q_.block, q_.off + 2, none⟩ = some (.int .i64 (v_ + sz)) ∧ Aside0 (Two p_ u_ q_ v_ sz w w2.drew) := Two.step2 (below_drew (Below.refl _ _)) T0
              clear K K2 K3 HA2 HB2 x0 x1 x2 y0 y1 y2 T0
              go_wp2_with fail
              have T2 := T
              obtain ⟨x0, x1, x2, y0, y1, y2, _⟩ := T2
              go_region_with (first
                | (go_at_call 37; refine (winEqual_any ⟨_, _, _⟩ ⟨_, _, _⟩ _).mono ?_; rintro e_ w5 ⟨rfl, hb⟩; rw [hsame.out]; have K5 : w5.cell? p_ = some (.bool false) ∧ w5.cell? ⟨p_.block, p_.off + 1, none⟩ = some (.int .i64 u_) ∧ w5.cell? ⟨p_.block, p_.off + 2, none⟩ = some (.int .i64 (u_ + sz)) ∧ w5.cell? q_ = some (.bool false) ∧ w5.cell? ⟨q_.block, q_.off + 1, none⟩ = some (.int .i64 v_) ∧ w5.cell? ⟨q_.block, q_.off + 2, none⟩ = some (.int .i64 (v_ + sz)) ∧ Aside0 (Two p_ u_ q_ v_ sz w w5) := Two.step2 hb (by assumption); clear hb; dsimp only; refine (by assumption : ∀ (a : Act) (w : World), wpAny _ _ _ _ _ _ a w → _) _ _ ?_; refine wpAny_take (i := 7) (v := .bool true) rfl (by kernel_rfl) (by kernel_rfl) (by kernel_rfl) (fun _ _ _ h => h) (Or.inl ⟨by rfl, fun w => by rfl⟩) ?_; simp only [Act.put, List.setIfInBounds_toArray, List.set_cons_zero, List.set_cons_succ, List.getElem_toArray, List.getElem_cons_succ, List.getElem_cons_zero]; refine wpAny_take (i := 8) (v := undef) rfl (by kernel_rfl) (by kernel_rfl) (by kernel_rfl) (fun _ _ _ h => h) (Or.inr ⟨by rfl, rfl⟩) ?_; simp only [Act.put, List.setIfInBounds_toArray, List.set_cons_zero, List.set_cons_succ, List.getElem_toArray, List.getElem_cons_succ, List.getElem_cons_zero]; refine wpAny_take (i := 9) (v := undef) rfl (by kernel_rfl) (by kernel_rfl) (by kernel_rfl) (fun _ _ _ h => h) (Or.inr ⟨by rfl, rfl⟩) ?_; simp only [Act.put, List.setIfInBounds_toArray, List.set_cons_zero, List.set_cons_succ, List.getElem_toArray, List.getElem_cons_succ, List.getElem_cons_zero]; refine wpAny_take (i := 10) (v := undef) rfl (by kernel_rfl) (by kernel_rfl) (by kernel_rfl) (fun _ _ _ h => h) (Or.inr ⟨by rfl, rfl⟩) ?_; simp only [Act.put, List.setIfInBounds_toArray, List.set_cons_zero, List.set_cons_succ, List.getElem_toArray, List.getElem_cons_succ, List.getElem_cons_zero]; refine wpAny_take (i := 11) (v := undef) rfl (by kernel_rfl) (by kernel_rfl) (by kernel_rfl) (fun _ _ _ h => h) (Or.inr ⟨by rfl, rfl⟩) ?_; simp only [Act.put, List.setIfInBounds_toArray, List.set_cons_zero, List.set_cons_succ, List.getElem_toArray, List.getElem_cons_succ, List.getElem_cons_zero]; refine wpAny_take (i := 12) (v := undef) rfl (by kernel_rfl) (by kernel_rfl) (by kernel_rfl) (fun _ _ _ h => h) (Or.inr ⟨by rfl, rfl⟩) ?_; simp only [Act.put, List.setIfInBounds_toArray, List.set_cons_zero, List.set_cons_succ, List.getElem_toArray, List.getElem_cons_succ, List.getElem_cons_zero]; refine wpAny_take (i := 13) (v := undef) rfl (by kernel_rfl) (by kernel_rfl) (by kernel_rfl) (fun _ _ _ h => h) (Or.inr ⟨by rfl, rfl⟩) ?_; simp only [Act.put, List.setIfInBounds_toArray, List.set_cons_zero, List.set_cons_succ, List.getElem_toArray, List.getElem_cons_succ, List.getElem_cons_zero]; refine wpAny_take (i := 14) (v := undef) rfl (by kernel_rfl) (by kernel_rfl) (by kernel_rfl) (fun _ _ _ h => h) (Or.inr ⟨by rfl, rfl⟩) ?_; simp only [Act.put, List.setIfInBounds_toArray, List.set_cons_zero, List.set_cons_succ, List.getElem_toArray, List.getElem_cons_succ, List.getElem_cons_zero]; refine wpAny_take (i := 15) (v := undef) rfl (by kernel_rfl) (by kernel_rfl) (by kernel_rfl) (fun _ _ _ h => h) (Or.inr ⟨by rfl, rfl⟩) ?_; simp only [Act.put, List.setIfInBounds_toArray, List.set_cons_zero, List.set_cons_succ, List.getElem_toArray, List.getElem_cons_succ, List.getElem_cons_zero]; refine wpAny_take (i := 16) (v := undef) rfl (by kernel_rfl) (by kernel_rfl) (by kernel_rfl) (fun _ _ _ h => h) (Or.inr ⟨by rfl, rfl⟩) ?_; simp only [Act.put, List.setIfInBounds_toArray, List.set_cons_zero, List.set_cons_succ, List.getElem_toArray, List.getElem_cons_succ, List.getElem_cons_zero])
                | (go_at_call 23; refine (awake_any _).mono ?_; rintro e_ w6 ⟨rfl, hb⟩; have K6 : w6.cell? p_ = some (.bool false) ∧ w6.cell? ⟨p_.block, p_.off + 1, none⟩ = some (.int .i64 u_) ∧ w6.cell? ⟨p_.block, p_.off + 2, none⟩ = some (.int .i64 (u_ + sz)) ∧ w6.cell? q_ = some (.bool false) ∧ w6.cell? ⟨q_.block, q_.off + 1, none⟩ = some (.int .i64 v_) ∧ w6.cell? ⟨q_.block, q_.off + 2, none⟩ = some (.int .i64 (v_ + sz)) ∧ Aside0 (Two p_ u_ q_ v_ sz w w6) := Two.step2 hb (by assumption); clear hb))
              all_goals
                go_wp2
                go_ret
                exact ⟨rfl, K6.2.2.2.2.2.2.out.2.2⟩
          · have hsame := Aside0.mk (show sameW ⟨false, u_, u_ + sz⟩ ⟨false, v_, v_ + sz⟩ = false by unfold sameW nz; simp; omega)
            go_enter Try.func12, Try.ntmps12
            go_wp2_with (go_at_call 18; refine (isF_any ⟨1, sz, 0, 0⟩ k0 _).mono ?_; rintro e w1 ⟨rfl, hb⟩; rw [hF]; have HB := Aside0.mk hb; clear hb)
            have K := Bx.all (k := 1) (sz := sz) (pd := 0) (gp := 0) (w := w) (x := w1.drew) (Bx.step ⟨blk_below (heap_alloc_new w _) HB.out, HFin.out _ HB.out⟩ (below_drew (Below.refl w1.heap.size w1)))
            go_region_held3 (fun x => x.cell? ⟨w.heap.size, 0, none⟩ = some (.int .u8 1) ∧ x.cell? ⟨w.heap.size, 1, none⟩ = some (.int .i64 sz) ∧ x.cell? ⟨w.heap.size, 2, none⟩ = some (.int .i64 0) ∧ x.cell? ⟨w.heap.size, 3, none⟩ = some (.int .i64 0) ∧ Aside0 (Bx 1 sz 0 0 w x)) (first | exact K | assumption)
              (first
              | (go_at_call 21; refine (winAssign_any ⟨1, sz, 0, 0⟩ _ ?ft _).mono ?_; (case ft => first | exact HFa.out | exact HFb.out); rintro e_ w2 ⟨r_, rfl, hR, hb⟩; rw [placed_fix] at hR; (first | rw [hu.out] at hR | rw [hv.out] at hR); first | (have h2 := HA1; have K3 : w2.cell? ⟨w.heap.size, 0, none⟩ = some (.int .u8 1) ∧ w2.cell? ⟨w.heap.size, 1, none⟩ = some (.int .i64 sz) ∧ w2.cell? ⟨w.heap.size, 2, none⟩ = some (.int .i64 0) ∧ w2.cell? ⟨w.heap.size, 3, none⟩ = some (.int .i64 0) ∧ Aside0 (Bx 1 sz 0 0 w w2) := Bx.step2 hb (by assumption); have HA2 := Aside0.mk (Kd.C_below HA1.out hb); obtain ⟨B_, d_, hv_, hc_, hC_⟩ := reads_sp hR; subst hv_; have HD := Aside0.mk hc_; have HB2 := Aside0.mk hC_; clear h2 HA1 hb hR hc_ hC_) | (have K2 : w2.cell? ⟨w.heap.size, 0, none⟩ = some (.int .u8 1) ∧ w2.cell? ⟨w.heap.size, 1, none⟩ = some (.int .i64 sz) ∧ w2.cell? ⟨w.heap.size, 2, none⟩ = some (.int .i64 0) ∧ w2.cell? ⟨w.heap.size, 3, none⟩ = some (.int .i64 0) ∧ Aside0 (Bx 1 sz 0 0 w w2) := Bx.step2 hb (by assumption); obtain ⟨A_, c_, hv_, hc_, hC_⟩ := reads_sp hR; subst hv_; have HC := Aside0.mk hc_; have HA1 := Aside0.mk hC_; clear hb hR hc_ hC_)))
            all_goals
              obtain ⟨p_, ha_, x0, x1, x2⟩ := atSp HA2.out 0 (by simp)
              subst ha_
              obtain ⟨q_, hb_, y0, y1, y2⟩ := atSp HB2.out 0 (by simp)
              subst hb_
              simp only [rdSp, List.getD_cons_zero, Nat.zero_mul] at x0 x1 x2 y0 y1 y2
              rw [show p_.add 0 = p_ from rfl] at x0 x1 x2
              rw [show q_.add 0 = q_ from rfl] at y0 y1 y2
              have T0 := Two.mk' x0 x1 x2 y0 y1 y2 K3.2.2.2.2.out.2
              have T : w2.drew.cell? p_ = some (.bool false) ∧ w2.drew.cell? ⟨p_.block, p_.off + 1, none⟩ = some (.int .i64 u_) ∧ w2.drew.cell? ⟨p_.block, p_.off + 2, none⟩ = some (.int .i64 (u_ + sz)) ∧ w2.drew.cell? q_ = some (.bool false) ∧ w2.drew.cell? ⟨q_.block, q_.off + 1, none⟩ = some (.int .i64 v_) ∧ w2.drew.cell? ⟨q_.block, q_.off + 2, none⟩ = some (.int .i64 (v_ + sz)) ∧ Aside0 (Two p_ u_ q_ v_ sz w w2.drew) := Two.step2 (below_drew (Below.refl _ _)) T0
              clear K K2 K3 HA2 HB2 x0 x1 x2 y0 y1 y2 T0
              go_wp2_with fail
              go_region_held3 (fun x => x.cell? p_ = some (.bool false) ∧ x.cell? ⟨p_.block, p_.off + 1, none⟩ = some (.int .i64 u_) ∧ x.cell? ⟨p_.block, p_.off + 2, none⟩ = some (.int .i64 (u_ + sz)) ∧ x.cell? q_ = some (.bool false) ∧ x.cell? ⟨q_.block, q_.off + 1, none⟩ = some (.int .i64 v_) ∧ x.cell? ⟨q_.block, q_.off + 2, none⟩ = some (.int .i64 (v_ + sz)) ∧ Aside0 (Two p_ u_ q_ v_ sz w x)) (first | exact T | assumption)
                (first
                | (go_at_call 37; refine (winEqual_any ⟨_, _, _⟩ ⟨_, _, _⟩ _).mono ?_; rintro e_ w5 ⟨rfl, hb⟩; rw [hsame.out]; have K5 : w5.cell? p_ = some (.bool false) ∧ w5.cell? ⟨p_.block, p_.off + 1, none⟩ = some (.int .i64 u_) ∧ w5.cell? ⟨p_.block, p_.off + 2, none⟩ = some (.int .i64 (u_ + sz)) ∧ w5.cell? q_ = some (.bool false) ∧ w5.cell? ⟨q_.block, q_.off + 1, none⟩ = some (.int .i64 v_) ∧ w5.cell? ⟨q_.block, q_.off + 2, none⟩ = some (.int .i64 (v_ + sz)) ∧ Aside0 (Two p_ u_ q_ v_ sz w w5) := Two.step2 hb (by assumption); clear hb)
                | (go_at_call 23; refine (awake_any _).mono ?_; rintro e_ w6 ⟨rfl, hb⟩; have K6 : w6.cell? p_ = some (.bool false) ∧ w6.cell? ⟨p_.block, p_.off + 1, none⟩ = some (.int .i64 u_) ∧ w6.cell? ⟨p_.block, p_.off + 2, none⟩ = some (.int .i64 (u_ + sz)) ∧ w6.cell? q_ = some (.bool false) ∧ w6.cell? ⟨q_.block, q_.off + 1, none⟩ = some (.int .i64 v_) ∧ w6.cell? ⟨q_.block, q_.off + 2, none⟩ = some (.int .i64 (v_ + sz)) ∧ Aside0 (Two p_ u_ q_ v_ sz w w6) := Two.step2 hb (by assumption); clear hb))
              all_goals
                go_wp2
                go_ret
                exact ⟨rfl, K6.2.2.2.2.2.2.out.2.2⟩
end Go.Proofs.Ytdifeleddhefnaa
