/- The walk of FnWinHas. -/
import Derived.Test.YtdifeleddhefnaaPl
import Derived.Deep.RegionHeld3
set_option linter.unusedVariables false
set_option linter.unusedSimpArgs false
namespace Go.Proofs.Ytdifeleddhefnaa
open Go.RowKit Go.Proofs.YtdifeleddhefnaaW.PrintWords

set_option maxRecDepth 100000 in
set_option maxHeartbeats 2000000 in
theorem winHas_walk (k sz pd gp t : Int) (w0 : (Lit.int .u8 k).wf = true) (w1 : (Lit.int .i64 sz).wf = true) (w2 : (Lit.int .i64 pd).wf = true) (w3 : (Lit.int .i64 gp).wf = true) (w4 : (Lit.int .i64 t).wf = true) (w : World) :
    Calls Try.prog 11 #[.agg #[.int .u8 k, .int .i64 sz, .int .i64 pd, .int .i64 gp], .int .i64 t] w fun e w' => e = .returned (.bool true) ∧ Below w.heap.size w w' := by
  have k0 := (u8_bd' w0).1
  clear w0 w1 w2 w3 w4
  have hfin : ∀ x, Below (w.alloc (.cells #[.int .u8 k, .int .i64 sz, .int .i64 pd, .int .i64 gp] 23)).heap.size (w.alloc (.cells #[.int .u8 k, .int .i64 sz, .int .i64 pd, .int .i64 gp] 23)) x → Below w.heap.size w x := fun x hb => (below_alloc (Below.refl w.heap.size w) _).trans (hb.mono (by simp))
  have HFin := Aside0.mk hfin
  clear hfin
  cases hF : isF ⟨k, sz, pd, gp⟩
  · go_enter Try.func11, Try.ntmps11
    go_wp2_with (go_at_call 18; refine (isF_any ⟨k, sz, pd, gp⟩ k0 _).mono ?_; rintro e w1 ⟨rfl, hb⟩; rw [hF]; have HB := Aside0.mk hb; clear hb)
    go_ret
    exact ⟨rfl, HFin.out _ HB.out⟩
  · by_cases t0 : t < 0
    · go_enter Try.func11, Try.ntmps11
      go_wp2_with (go_at_call 18; refine (isF_any ⟨k, sz, pd, gp⟩ k0 _).mono ?_; rintro e w1 ⟨rfl, hb⟩; rw [hF]; have HB := Aside0.mk hb; clear hb)
      go_ret
      exact ⟨rfl, HFin.out _ HB.out⟩
    · by_cases t1 : 562949953421312 < t
      · go_enter Try.func11, Try.ntmps11
        go_wp2_with (go_at_call 18; refine (isF_any ⟨k, sz, pd, gp⟩ k0 _).mono ?_; rintro e w1 ⟨rfl, hb⟩; rw [hF]; have HB := Aside0.mk hb; clear hb)
        go_ret
        exact ⟨rfl, HFin.out _ HB.out⟩
      · have HF := Aside0.mk (isF_FT (t := t) hF (by omega) (by omega))
        obtain ⟨k3, hg1, hg0, hp0⟩ := isF_gap hF
        clear hg0 hp0 k3
        have HH := Aside0.mk (placed_has HF.out (by omega) hg1)
        clear hg1
        go_enter Try.func11, Try.ntmps11
        go_wp2_with (first
          | (go_at_call 18; refine (isF_any ⟨k, sz, pd, gp⟩ k0 _).mono ?_; rintro e w1 ⟨rfl, hb⟩; rw [hF]; obtain ⟨x0, x1, x2, x3, K1⟩ := Bx.all (k := k) (sz := sz) (pd := pd) (gp := gp) (w := w) (x := w1) ⟨blk_below (heap_alloc_new w _) hb, HFin.out _ hb⟩; clear hb)
          | (go_at_call 21; refine (winAssign_any ⟨k, sz, pd, gp⟩ t HF.out _).mono ?_; rintro e w2 ⟨v_, rfl, hR, hb⟩; clear x0 x1 x2 x3; obtain ⟨x0, x1, x2, x3, K2⟩ := Bx.all (K1.out.step hb); obtain ⟨A_, c_, hv_, hc_, hC_⟩ := reads_sp hR; subst hv_; have HC := Aside0.mk hc_; have HCC := Aside0.mk hC_; clear hb hR hc_ hC_))
        clear x0 x1 x2 x3
        have HB := Aside0.mk K2.out.2
        clear K1 K2
        go_loopg [22] (placed ⟨k, sz, pd, gp⟩ t).length (fun kq v22 w' => ∃ i : Nat, i ≤ (placed ⟨k, sz, pd, gp⟩ t).length ∧ Aside0 (kq = (placed ⟨k, sz, pd, gp⟩ t).length - i) ∧ v22 = .int .i64 i ∧ Aside0 (Below w.heap.size w w') ∧ Aside0 (Kd.C kSp w' A_ (placed ⟨k, sz, pd, gp⟩ t).length (placed ⟨k, sz, pd, gp⟩ t)))
        case atStart => exact ⟨0, Nat.zero_le _, ⟨by simp⟩, rfl, HB, HCC⟩
        case round =>
          clear HB HCC
          obtain ⟨i, hi, hq, rfl, HB, HCC⟩ := hrel
          by_cases hlt : i < (placed ⟨k, sz, pd, gp⟩ t).length
          · obtain ⟨ad, e104, hx0, hx1, hx2⟩ := atSp HCC.out i hlt
            cases e104
            obtain ⟨p1, p2, p3, p4⟩ := HH.out _ (rdSp_mem hlt)
            have q0 : (i : Int) < ((placed ⟨k, sz, pd, gp⟩ t).length : Int) := by omega
            have q2 : (0 : Int) ≤ (i : Int) := by omega
            have q5 : ((placed ⟨k, sz, pd, gp⟩ t).length : Int) ≤ 1000000000 := by have := placed_len (t := t) HF.out.s; omega
            have q3 : ¬ lst (rdSp (placed ⟨k, sz, pd, gp⟩ t) i) < t := by omega
            generalize rdSp (placed ⟨k, sz, pd, gp⟩ t) i = x at *
            obtain ⟨g, s, e⟩ := x
            simp only at hx0 hx1 hx2 p1 p3 p4
            have P3 := Aside0.mk p3
            have P4 := Aside0.mk p4
            clear p2 p3 p4
            cases g
            · have q4 : ¬ t < s := by simpa using p1
              clear p1
              go_wp2_with (first
                | (go_at_call 36; refine (winMax_any ⟨false, s, e⟩ (by have := P3.out; simp only; omega) (by have := P4.out; simp only; omega) _).mono ?_; rintro e' w7 ⟨rfl, hb⟩; have n1 := Aside0.mk (below_then (below_alloc HB.out _) (below_alloc HB.out _).size hb); clear HB; have HB := n1; clear n1; have n2 := Aside0.mk (Kd.C_below (Kd.C_alloc HCC.out _) hb); clear HCC; have HCC := n2; clear n2 hb))
              go_roundg ((placed ⟨k, sz, pd, gp⟩ t).length - (i + 1))
              case measure => have := hq.out; omega
              case rel => exact ⟨i + 1, by omega, ⟨rfl⟩, by go_num, HB, HCC⟩
            · have q4 : True := trivial
              clear p1
              go_wp2_with (first
                | (go_at_call 36; refine (winMax_any ⟨true, s, e⟩ (by have := P3.out; simp only; omega) (by have := P4.out; simp only; omega) _).mono ?_; rintro e' w7 ⟨rfl, hb⟩; have n1 := Aside0.mk (below_then (below_alloc HB.out _) (below_alloc HB.out _).size hb); clear HB; have HB := n1; clear n1; have n2 := Aside0.mk (Kd.C_below (Kd.C_alloc HCC.out _) hb); clear HCC; have HCC := n2; clear n2 hb))
              go_roundg ((placed ⟨k, sz, pd, gp⟩ t).length - (i + 1))
              case measure => have := hq.out; omega
              case rel => exact ⟨i + 1, by omega, ⟨rfl⟩, by go_num, HB, HCC⟩
          · go_wp2_with (first | (go_at_call 23; refine (awake_any _).mono ?_; rintro e w6 ⟨rfl, hb⟩; have HZ := Aside0.mk (below_then (HB.out) (HB.out).size hb); clear hb))
            go_ret
            exact ⟨rfl, HZ.out⟩
end Go.Proofs.Ytdifeleddhefnaa
