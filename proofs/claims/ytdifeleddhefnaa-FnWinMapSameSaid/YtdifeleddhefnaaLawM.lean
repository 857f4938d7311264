/- The walk of FnWinMapSame. -/
import Derived.Test.YtdifeleddhefnaaLawA
import Derived.Test.YtdifeleddhefnaaMap
import Derived.Deep.RegionHeld3
set_option linter.unusedVariables false
set_option linter.unusedSimpArgs false
namespace Go.Proofs.Ytdifeleddhefnaa
open Go.RowKit Go.Proofs.YtdifeleddhefnaaW.PrintWords

theorem St7 {p : Addr} {u sz : Int} {w z z' : World} (hb : Below z.heap.size z z') (h : z.cell? ⟨w.heap.size, 0, none⟩ = some (.int .u8 1) ∧ z.cell? ⟨w.heap.size, 1, none⟩ = some (.int .i64 sz) ∧ z.cell? ⟨w.heap.size, 2, none⟩ = some (.int .i64 0) ∧ z.cell? ⟨w.heap.size, 3, none⟩ = some (.int .i64 0) ∧ z.cell? p = some (.bool false) ∧ z.cell? ⟨p.block, p.off + 1, none⟩ = some (.int .i64 u) ∧ z.cell? ⟨p.block, p.off + 2, none⟩ = some (.int .i64 (u + sz)) ∧ Aside0 (Below w.heap.size w z)) : z'.cell? ⟨w.heap.size, 0, none⟩ = some (.int .u8 1) ∧ z'.cell? ⟨w.heap.size, 1, none⟩ = some (.int .i64 sz) ∧ z'.cell? ⟨w.heap.size, 2, none⟩ = some (.int .i64 0) ∧ z'.cell? ⟨w.heap.size, 3, none⟩ = some (.int .i64 0) ∧ z'.cell? p = some (.bool false) ∧ z'.cell? ⟨p.block, p.off + 1, none⟩ = some (.int .i64 u) ∧ z'.cell? ⟨p.block, p.off + 2, none⟩ = some (.int .i64 (u + sz)) ∧ Aside0 (Below w.heap.size w z') := by
  obtain ⟨a0, a1, a2, a3, h0, h1, h2, hB⟩ := h
  have st : ∀ {c : Addr} {v : Value}, z.cell? c = some v → z'.cell? c = some v := fun hc => (hb.cell (World.block_lt_of_cell? z _ hc)).trans hc
  exact ⟨st a0, st a1, st a2, st a3, st h0, st h1, st h2, ⟨below_then hB.out hB.out.size hb⟩⟩
theorem St7set {p : Addr} {u sz : Int} {w z : World} {gb : Nat} (v0 v1 v2 : Value) (h1 : w.heap.size < gb) (h2 : p.block < gb) (h : z.cell? ⟨w.heap.size, 0, none⟩ = some (.int .u8 1) ∧ z.cell? ⟨w.heap.size, 1, none⟩ = some (.int .i64 sz) ∧ z.cell? ⟨w.heap.size, 2, none⟩ = some (.int .i64 0) ∧ z.cell? ⟨w.heap.size, 3, none⟩ = some (.int .i64 0) ∧ z.cell? p = some (.bool false) ∧ z.cell? ⟨p.block, p.off + 1, none⟩ = some (.int .i64 u) ∧ z.cell? ⟨p.block, p.off + 2, none⟩ = some (.int .i64 (u + sz)) ∧ Aside0 (Below w.heap.size w z)) : (((z.setCell ⟨gb, 0, none⟩ v0).setCell ⟨gb, 1, none⟩ v1).setCell ⟨gb, 2, none⟩ v2).cell? ⟨w.heap.size, 0, none⟩ = some (.int .u8 1) ∧ (((z.setCell ⟨gb, 0, none⟩ v0).setCell ⟨gb, 1, none⟩ v1).setCell ⟨gb, 2, none⟩ v2).cell? ⟨w.heap.size, 1, none⟩ = some (.int .i64 sz) ∧ (((z.setCell ⟨gb, 0, none⟩ v0).setCell ⟨gb, 1, none⟩ v1).setCell ⟨gb, 2, none⟩ v2).cell? ⟨w.heap.size, 2, none⟩ = some (.int .i64 0) ∧ (((z.setCell ⟨gb, 0, none⟩ v0).setCell ⟨gb, 1, none⟩ v1).setCell ⟨gb, 2, none⟩ v2).cell? ⟨w.heap.size, 3, none⟩ = some (.int .i64 0) ∧ (((z.setCell ⟨gb, 0, none⟩ v0).setCell ⟨gb, 1, none⟩ v1).setCell ⟨gb, 2, none⟩ v2).cell? p = some (.bool false) ∧ (((z.setCell ⟨gb, 0, none⟩ v0).setCell ⟨gb, 1, none⟩ v1).setCell ⟨gb, 2, none⟩ v2).cell? ⟨p.block, p.off + 1, none⟩ = some (.int .i64 u) ∧ (((z.setCell ⟨gb, 0, none⟩ v0).setCell ⟨gb, 1, none⟩ v1).setCell ⟨gb, 2, none⟩ v2).cell? ⟨p.block, p.off + 2, none⟩ = some (.int .i64 (u + sz)) ∧ Aside0 (Below w.heap.size w (((z.setCell ⟨gb, 0, none⟩ v0).setCell ⟨gb, 1, none⟩ v1).setCell ⟨gb, 2, none⟩ v2)) := by
  obtain ⟨a0, a1, a2, a3, h0, h1', h2', hB⟩ := h
  have st : ∀ {c : Addr} {v : Value}, gb ≠ c.block → z.cell? c = some v → (((z.setCell ⟨gb, 0, none⟩ v0).setCell ⟨gb, 1, none⟩ v1).setCell ⟨gb, 2, none⟩ v2).cell? c = some v := fun hne hc => by
    rw [World.cell?_setCell_far _ _ _ _ hne, World.cell?_setCell_far _ _ _ _ hne, World.cell?_setCell_far _ _ _ _ hne]; exact hc
  exact ⟨st (by show gb ≠ w.heap.size; omega) a0, st (by show gb ≠ w.heap.size; omega) a1, st (by show gb ≠ w.heap.size; omega) a2, st (by show gb ≠ w.heap.size; omega) a3, st (by omega) h0, st (by show gb ≠ p.block; omega) h1', st (by show gb ≠ p.block; omega) h2', ⟨below_set (below_set (below_set hB.out (show w.heap.size ≤ gb by omega)) (show w.heap.size ≤ gb by omega)) (show w.heap.size ≤ gb by omega)⟩⟩
theorem St8 {p : Addr} {gb : Nat} {u sz : Int} {w z z' : World} (hb : Below z.heap.size z z') (h : z.cell? ⟨gb, 0, none⟩ = some (.bool false) ∧ z.cell? ⟨gb, 1, none⟩ = some (.int .i64 u) ∧ z.cell? ⟨gb, 2, none⟩ = some (.int .i64 (u + sz)) ∧ z.cell? p = some (.bool false) ∧ z.cell? ⟨p.block, p.off + 1, none⟩ = some (.int .i64 u) ∧ z.cell? ⟨p.block, p.off + 2, none⟩ = some (.int .i64 (u + sz)) ∧ Aside0 (Below w.heap.size w z)) : z'.cell? ⟨gb, 0, none⟩ = some (.bool false) ∧ z'.cell? ⟨gb, 1, none⟩ = some (.int .i64 u) ∧ z'.cell? ⟨gb, 2, none⟩ = some (.int .i64 (u + sz)) ∧ z'.cell? p = some (.bool false) ∧ z'.cell? ⟨p.block, p.off + 1, none⟩ = some (.int .i64 u) ∧ z'.cell? ⟨p.block, p.off + 2, none⟩ = some (.int .i64 (u + sz)) ∧ Aside0 (Below w.heap.size w z') := by
  obtain ⟨a0, a1, a2, h0, h1, h2, hB⟩ := h
  have st : ∀ {c : Addr} {v : Value}, z.cell? c = some v → z'.cell? c = some v := fun hc => (hb.cell (World.block_lt_of_cell? z _ hc)).trans hc
  exact ⟨st a0, st a1, st a2, st h0, st h1, st h2, ⟨below_then hB.out hB.out.size hb⟩⟩
theorem fxs_last {sz t : Int} (h : 1 ≤ sz) : fxs sz (fxs sz t + sz - 1) = fxs sz t := by
  have e : fxs sz t = sz * (t / sz) := by
    have := Int.emod_add_mul_ediv t sz
    unfold fxs; omega
  rw [e]
  unfold fxs
  have : (sz * (t / sz) + sz - 1) % sz = sz - 1 := by
    rw [show sz * (t / sz) + sz - 1 = (sz - 1) + sz * (t / sz) by omega, Int.add_mul_emod_self_left, Int.emod_eq_of_lt (by omega) (by omega)]
  omega
set_option maxRecDepth 100000 in
set_option maxHeartbeats 4000000 in
theorem winMapSame_walk (sz t : Int) (w0 : (Lit.int .i64 sz).wf = true) (w1 : (Lit.int .i64 t).wf = true) (w : World) :
    Calls Try.prog 17 #[.int .i64 sz, .int .i64 t] w fun e w' => e = .returned (.bool true) ∧ Below w.heap.size w w' := by
  have k0 : (0 : Int) ≤ 1 := by decide
  clear w0 w1
  have hfin : ∀ x, Below (w.alloc (.cells #[.int .u8 1, .int .i64 sz, .int .i64 0, .int .i64 0] 23)).heap.size (w.alloc (.cells #[.int .u8 1, .int .i64 sz, .int .i64 0, .int .i64 0] 23)) x → Below w.heap.size w x := fun x hb => (below_alloc (Below.refl w.heap.size w) _).trans (hb.mono (by simp))
  have HFin := Aside0.mk hfin
  clear hfin
  cases hF : isF ⟨1, sz, 0, 0⟩
  · go_enter Try.func17, Try.ntmps17
    go_wp2_with (go_at_call 18; refine (isF_any ⟨1, sz, 0, 0⟩ k0 _).mono ?_; rintro e w1 ⟨rfl, hb⟩; rw [hF]; have HB := Aside0.mk hb; clear hb)
    go_ret
    exact ⟨rfl, HFin.out _ HB.out⟩
  · by_cases t0 : t < 0
    · go_enter Try.func17, Try.ntmps17
      go_wp2_with (go_at_call 18; refine (isF_any ⟨1, sz, 0, 0⟩ k0 _).mono ?_; rintro e w1 ⟨rfl, hb⟩; rw [hF]; have HB := Aside0.mk hb; clear hb)
      go_ret
      exact ⟨rfl, HFin.out _ HB.out⟩
    · by_cases t1 : 562949953421312 < t
      · go_enter Try.func17, Try.ntmps17
        go_wp2_with (go_at_call 18; refine (isF_any ⟨1, sz, 0, 0⟩ k0 _).mono ?_; rintro e w1 ⟨rfl, hb⟩; rw [hF]; have HB := Aside0.mk hb; clear hb)
        go_ret
        exact ⟨rfl, HFin.out _ HB.out⟩
      · have HF := Aside0.mk (isF_FT (t := t) hF (by omega) (by omega))
        obtain ⟨hs0, hs1⟩ := HF.out.s
        have hz : 1 ≤ sz := (HF.out.f1 rfl).1
        simp only at hs0 hs1
        have hbd := fxs_bd (t := t) hz
        have hlast := fxs_last (t := t) hz
        obtain ⟨u_, hu⟩ : ∃ u, Aside0 (fxs sz t = u) := ⟨_, ⟨rfl⟩⟩
        rw [hu.out] at hbd hlast
        have HFm := Aside0.mk (show FT ⟨1, sz, 0, 0⟩ (lst ⟨false, u_, u_ + sz⟩) from isF_FT hF (.inr ⟨rfl, by show -sz ≤ u_ + sz - 1; omega⟩) (by show u_ + sz - 1 ≤ _; omega))
        have HPm := Aside0.mk (show placed ⟨1, sz, 0, 0⟩ (lst ⟨false, u_, u_ + sz⟩) = [⟨false, u_, u_ + sz⟩] from (placed_fix (t := u_ + sz - 1)).trans (by rw [hlast]))
        have HS := Aside0.mk (show sameW ⟨false, u_, u_ + sz⟩ ⟨false, u_, u_ + sz⟩ = true by simp [sameW])
        have B0 := Aside0.mk hbd
        clear hbd hlast
        go_enter Try.func17, Try.ntmps17
        go_wp2_with (first
          | (go_at_call 18; refine (isF_any ⟨1, sz, 0, 0⟩ k0 _).mono ?_; rintro e w1 ⟨rfl, hb⟩; rw [hF]; obtain ⟨x0, x1, x2, x3, K1⟩ := Bx.all (k := 1) (sz := sz) (pd := 0) (gp := 0) (w := w) (x := w1) ⟨blk_below (heap_alloc_new w _) hb, HFin.out _ hb⟩; clear hb)
          | (go_at_call 21; refine (winAssign_any ⟨1, sz, 0, 0⟩ t HF.out _).mono ?_; rintro e w2 ⟨v_, rfl, hR, hb⟩; rw [placed_fix, hu.out] at hR; clear x0 x1 x2 x3; obtain ⟨x0, x1, x2, x3, K2⟩ := Bx.all (K1.out.step hb); obtain ⟨A_, c_, hv_, hc_, hC_⟩ := reads_sp hR; subst hv_; have HC := Aside0.mk hc_; have HCC := Aside0.mk hC_; clear hb hR hc_ hC_))
        obtain ⟨p_, ha_, y0, y1, y2⟩ := atSp HCC.out 0 (by simp)
        subst ha_
        simp only [rdSp, List.getD_cons_zero, Nat.zero_mul] at y0 y1 y2
        rw [show p_.add 0 = p_ from rfl] at y0 y1 y2
        have T0 : w2.cell? ⟨w.heap.size, 0, none⟩ = some (.int .u8 1) ∧ w2.cell? ⟨w.heap.size, 1, none⟩ = some (.int .i64 sz) ∧ w2.cell? ⟨w.heap.size, 2, none⟩ = some (.int .i64 0) ∧ w2.cell? ⟨w.heap.size, 3, none⟩ = some (.int .i64 0) ∧ w2.cell? p_ = some (.bool false) ∧ w2.cell? ⟨p_.block, p_.off + 1, none⟩ = some (.int .i64 u_) ∧ w2.cell? ⟨p_.block, p_.off + 2, none⟩ = some (.int .i64 (u_ + sz)) ∧ Aside0 (Below w.heap.size w w2) := ⟨x0, x1, x2, x3, y0, y1, y2, ⟨K2.out.2⟩⟩
        have T : w2.drew.cell? ⟨w.heap.size, 0, none⟩ = some (.int .u8 1) ∧ w2.drew.cell? ⟨w.heap.size, 1, none⟩ = some (.int .i64 sz) ∧ w2.drew.cell? ⟨w.heap.size, 2, none⟩ = some (.int .i64 0) ∧ w2.drew.cell? ⟨w.heap.size, 3, none⟩ = some (.int .i64 0) ∧ w2.drew.cell? p_ = some (.bool false) ∧ w2.drew.cell? ⟨p_.block, p_.off + 1, none⟩ = some (.int .i64 u_) ∧ w2.drew.cell? ⟨p_.block, p_.off + 2, none⟩ = some (.int .i64 (u_ + sz)) ∧ Aside0 (Below w.heap.size w w2.drew) := St7 (below_drew (Below.refl _ _)) T0
        have n1 : w.heap.size < w2.heap.size := blk_lt K2.out.1
        have n2 : p_.block < w2.heap.size := World.block_lt_of_cell? w2 _ y0
        clear x0 x1 x2 x3 y0 y1 y2 T0 HCC K1
        go_wp2_with fail
        go_region_held3 (fun z => z.cell? ⟨w.heap.size, 0, none⟩ = some (.int .u8 1) ∧ z.cell? ⟨w.heap.size, 1, none⟩ = some (.int .i64 sz) ∧ z.cell? ⟨w.heap.size, 2, none⟩ = some (.int .i64 0) ∧ z.cell? ⟨w.heap.size, 3, none⟩ = some (.int .i64 0) ∧ z.cell? p_ = some (.bool false) ∧ z.cell? ⟨p_.block, p_.off + 1, none⟩ = some (.int .i64 u_) ∧ z.cell? ⟨p_.block, p_.off + 2, none⟩ = some (.int .i64 (u_ + sz)) ∧ Aside0 (Below w.heap.size w z)) (first | exact K | exact T | assumption | exact St7 (below_alloc (Below.refl _ _) _) (by assumption) | exact St7set _ _ _ (by first | assumption | omega) (by first | assumption | omega) (by assumption))
          (first
          | (go_at_call 42; refine (winMap_any 1 sz 0 0 ⟨_, _, _⟩ [⟨false, u_, u_ + sz⟩] _ HFm.out HPm.out (by simp) ?e0 ?e1).mono ?_; (case e0 => have := B0.out; simp only; omega); (case e1 => have := B0.out; simp only; omega); rintro e_ w3 ⟨rfl, hb⟩; simp only [show nz (rdSp [⟨false, u_, u_ + sz⟩] (([⟨false, u_, u_ + sz⟩] : List Sp).length - 1)) = ⟨false, u_, u_ + sz⟩ from rfl]; have BN := Aside0.mk (blk_below (heap_alloc_new w2.drew (.cells #[.bool false, .int .i64 0, .int .i64 0] 36)) hb); have g0 : w3.cell? ⟨w2.heap.size, 0, none⟩ = some (.bool false) := (blk_cell BN.out 0).trans rfl; have g1 : w3.cell? ⟨w2.heap.size, 1, none⟩ = some (.int .i64 0) := (blk_cell BN.out 1).trans rfl; have g2 : w3.cell? ⟨w2.heap.size, 2, none⟩ = some (.int .i64 0) := (blk_cell BN.out 2).trans rfl; have gf0 : w3.frozen? ⟨w2.heap.size, 0, none⟩ = false := blk_frozen BN.out 0; have gf1 : w3.frozen? ⟨w2.heap.size, 1, none⟩ = false := blk_frozen BN.out 1; have gf2 : w3.frozen? ⟨w2.heap.size, 2, none⟩ = false := blk_frozen BN.out 2; have K : w3.cell? ⟨w.heap.size, 0, none⟩ = some (.int .u8 1) ∧ w3.cell? ⟨w.heap.size, 1, none⟩ = some (.int .i64 sz) ∧ w3.cell? ⟨w.heap.size, 2, none⟩ = some (.int .i64 0) ∧ w3.cell? ⟨w.heap.size, 3, none⟩ = some (.int .i64 0) ∧ w3.cell? p_ = some (.bool false) ∧ w3.cell? ⟨p_.block, p_.off + 1, none⟩ = some (.int .i64 u_) ∧ w3.cell? ⟨p_.block, p_.off + 2, none⟩ = some (.int .i64 (u_ + sz)) ∧ Aside0 (Below w.heap.size w w3) := St7 hb (by assumption); clear hb)
          | (go_at_call 42; refine (winMap_any 1 sz 0 0 ⟨_, _, _⟩ [⟨false, u_, u_ + sz⟩] _ HFm.out HPm.out (by simp) ?e0 ?e1).mono ?_; (case e0 => have := B0.out; simp only; omega); (case e1 => have := B0.out; simp only; omega); rintro e_ w3 ⟨rfl, hb⟩; simp only [show nz (rdSp [⟨false, u_, u_ + sz⟩] (([⟨false, u_, u_ + sz⟩] : List Sp).length - 1)) = ⟨false, u_, u_ + sz⟩ from rfl]; have n3 := hb.size; have K : w3.cell? ⟨w.heap.size, 0, none⟩ = some (.int .u8 1) ∧ w3.cell? ⟨w.heap.size, 1, none⟩ = some (.int .i64 sz) ∧ w3.cell? ⟨w.heap.size, 2, none⟩ = some (.int .i64 0) ∧ w3.cell? ⟨w.heap.size, 3, none⟩ = some (.int .i64 0) ∧ w3.cell? p_ = some (.bool false) ∧ w3.cell? ⟨p_.block, p_.off + 1, none⟩ = some (.int .i64 u_) ∧ w3.cell? ⟨p_.block, p_.off + 2, none⟩ = some (.int .i64 (u_ + sz)) ∧ Aside0 (Below w.heap.size w w3) := St7 hb (by assumption); clear hb))
        · refine (by assumption : ∀ (a : Act) (w : World), Code.wp Try.prog _ _ a w → _) _ _ ?_
          have HH : (w3.alloc (.cells #[.bool false, .int .i64 u_, .int .i64 (u_ + sz)] 36)).cell? ⟨w.heap.size, 0, none⟩ = some (.int .u8 1) ∧ (w3.alloc (.cells #[.bool false, .int .i64 u_, .int .i64 (u_ + sz)] 36)).cell? ⟨w.heap.size, 1, none⟩ = some (.int .i64 sz) ∧ (w3.alloc (.cells #[.bool false, .int .i64 u_, .int .i64 (u_ + sz)] 36)).cell? ⟨w.heap.size, 2, none⟩ = some (.int .i64 0) ∧ (w3.alloc (.cells #[.bool false, .int .i64 u_, .int .i64 (u_ + sz)] 36)).cell? ⟨w.heap.size, 3, none⟩ = some (.int .i64 0) ∧ (w3.alloc (.cells #[.bool false, .int .i64 u_, .int .i64 (u_ + sz)] 36)).cell? p_ = some (.bool false) ∧ (w3.alloc (.cells #[.bool false, .int .i64 u_, .int .i64 (u_ + sz)] 36)).cell? ⟨p_.block, p_.off + 1, none⟩ = some (.int .i64 u_) ∧ (w3.alloc (.cells #[.bool false, .int .i64 u_, .int .i64 (u_ + sz)] 36)).cell? ⟨p_.block, p_.off + 2, none⟩ = some (.int .i64 (u_ + sz)) ∧ Aside0 (Below w.heap.size w (w3.alloc (.cells #[.bool false, .int .i64 u_, .int .i64 (u_ + sz)] 36))) := by assumption
          have BG : (w3.alloc (.cells #[.bool false, .int .i64 u_, .int .i64 (u_ + sz)] 36)).heap[w3.heap.size]? = some (.cells #[.bool false, .int .i64 u_, .int .i64 (u_ + sz)] 36 (0, 0)) := heap_alloc_new w3 _
          have T8 : (w3.alloc (.cells #[.bool false, .int .i64 u_, .int .i64 (u_ + sz)] 36)).drew.cell? ⟨w3.heap.size, 0, none⟩ = some (.bool false) ∧ (w3.alloc (.cells #[.bool false, .int .i64 u_, .int .i64 (u_ + sz)] 36)).drew.cell? ⟨w3.heap.size, 1, none⟩ = some (.int .i64 u_) ∧ (w3.alloc (.cells #[.bool false, .int .i64 u_, .int .i64 (u_ + sz)] 36)).drew.cell? ⟨w3.heap.size, 2, none⟩ = some (.int .i64 (u_ + sz)) ∧ (w3.alloc (.cells #[.bool false, .int .i64 u_, .int .i64 (u_ + sz)] 36)).drew.cell? p_ = some (.bool false) ∧ (w3.alloc (.cells #[.bool false, .int .i64 u_, .int .i64 (u_ + sz)] 36)).drew.cell? ⟨p_.block, p_.off + 1, none⟩ = some (.int .i64 u_) ∧ (w3.alloc (.cells #[.bool false, .int .i64 u_, .int .i64 (u_ + sz)] 36)).drew.cell? ⟨p_.block, p_.off + 2, none⟩ = some (.int .i64 (u_ + sz)) ∧ Aside0 (Below w.heap.size w (w3.alloc (.cells #[.bool false, .int .i64 u_, .int .i64 (u_ + sz)] 36)).drew) := St8 (below_drew (Below.refl _ _)) ⟨(blk_cell BG 0).trans rfl, (blk_cell BG 1).trans rfl, (blk_cell BG 2).trans rfl, HH.2.2.2.2⟩
          clear HH BG
          go_wp2_with fail
          go_region_held3 (fun z => z.cell? ⟨w3.heap.size, 0, none⟩ = some (.bool false) ∧ z.cell? ⟨w3.heap.size, 1, none⟩ = some (.int .i64 u_) ∧ z.cell? ⟨w3.heap.size, 2, none⟩ = some (.int .i64 (u_ + sz)) ∧ z.cell? p_ = some (.bool false) ∧ z.cell? ⟨p_.block, p_.off + 1, none⟩ = some (.int .i64 u_) ∧ z.cell? ⟨p_.block, p_.off + 2, none⟩ = some (.int .i64 (u_ + sz)) ∧ Aside0 (Below w.heap.size w z)) (first | exact K | exact T8 | assumption)
            (first
            | (go_at_call 37; refine (winEqual_any ⟨_, _, _⟩ ⟨_, _, _⟩ _).mono ?_; rintro e_ w5 ⟨rfl, hb⟩; rw [HS.out]; have K : w5.cell? ⟨w3.heap.size, 0, none⟩ = some (.bool false) ∧ w5.cell? ⟨w3.heap.size, 1, none⟩ = some (.int .i64 u_) ∧ w5.cell? ⟨w3.heap.size, 2, none⟩ = some (.int .i64 (u_ + sz)) ∧ w5.cell? p_ = some (.bool false) ∧ w5.cell? ⟨p_.block, p_.off + 1, none⟩ = some (.int .i64 u_) ∧ w5.cell? ⟨p_.block, p_.off + 2, none⟩ = some (.int .i64 (u_ + sz)) ∧ Aside0 (Below w.heap.size w w5) := St8 hb (by assumption); clear hb)
            | (go_at_call 23; refine (awake_any _).mono ?_; rintro e_ w6 ⟨rfl, hb⟩; have K6 : w6.cell? ⟨w3.heap.size, 0, none⟩ = some (.bool false) ∧ w6.cell? ⟨w3.heap.size, 1, none⟩ = some (.int .i64 u_) ∧ w6.cell? ⟨w3.heap.size, 2, none⟩ = some (.int .i64 (u_ + sz)) ∧ w6.cell? p_ = some (.bool false) ∧ w6.cell? ⟨p_.block, p_.off + 1, none⟩ = some (.int .i64 u_) ∧ w6.cell? ⟨p_.block, p_.off + 2, none⟩ = some (.int .i64 (u_ + sz)) ∧ Aside0 (Below w.heap.size w w6) := St8 hb (by assumption); have K := K6; clear hb))
          all_goals
            go_wp2
            go_ret
            exact ⟨rfl, K6.2.2.2.2.2.2.out⟩
        · refine (by assumption : ∀ (a : Act) (w : World), Code.wp Try.prog _ _ a w → _) _ _ ?_
          have HH : (((w3.setCell ⟨w2.heap.size, 0, none⟩ (.bool false)).setCell ⟨w2.heap.size, 1, none⟩ (.int .i64 u_)).setCell ⟨w2.heap.size, 2, none⟩ (.int .i64 (u_ + sz))).cell? ⟨w.heap.size, 0, none⟩ = some (.int .u8 1) ∧ (((w3.setCell ⟨w2.heap.size, 0, none⟩ (.bool false)).setCell ⟨w2.heap.size, 1, none⟩ (.int .i64 u_)).setCell ⟨w2.heap.size, 2, none⟩ (.int .i64 (u_ + sz))).cell? ⟨w.heap.size, 1, none⟩ = some (.int .i64 sz) ∧ (((w3.setCell ⟨w2.heap.size, 0, none⟩ (.bool false)).setCell ⟨w2.heap.size, 1, none⟩ (.int .i64 u_)).setCell ⟨w2.heap.size, 2, none⟩ (.int .i64 (u_ + sz))).cell? ⟨w.heap.size, 2, none⟩ = some (.int .i64 0) ∧ (((w3.setCell ⟨w2.heap.size, 0, none⟩ (.bool false)).setCell ⟨w2.heap.size, 1, none⟩ (.int .i64 u_)).setCell ⟨w2.heap.size, 2, none⟩ (.int .i64 (u_ + sz))).cell? ⟨w.heap.size, 3, none⟩ = some (.int .i64 0) ∧ (((w3.setCell ⟨w2.heap.size, 0, none⟩ (.bool false)).setCell ⟨w2.heap.size, 1, none⟩ (.int .i64 u_)).setCell ⟨w2.heap.size, 2, none⟩ (.int .i64 (u_ + sz))).cell? p_ = some (.bool false) ∧ (((w3.setCell ⟨w2.heap.size, 0, none⟩ (.bool false)).setCell ⟨w2.heap.size, 1, none⟩ (.int .i64 u_)).setCell ⟨w2.heap.size, 2, none⟩ (.int .i64 (u_ + sz))).cell? ⟨p_.block, p_.off + 1, none⟩ = some (.int .i64 u_) ∧ (((w3.setCell ⟨w2.heap.size, 0, none⟩ (.bool false)).setCell ⟨w2.heap.size, 1, none⟩ (.int .i64 u_)).setCell ⟨w2.heap.size, 2, none⟩ (.int .i64 (u_ + sz))).cell? ⟨p_.block, p_.off + 2, none⟩ = some (.int .i64 (u_ + sz)) ∧ Aside0 (Below w.heap.size w (((w3.setCell ⟨w2.heap.size, 0, none⟩ (.bool false)).setCell ⟨w2.heap.size, 1, none⟩ (.int .i64 u_)).setCell ⟨w2.heap.size, 2, none⟩ (.int .i64 (u_ + sz)))) := by assumption
          have BG : (((w3.setCell ⟨w2.heap.size, 0, none⟩ (.bool false)).setCell ⟨w2.heap.size, 1, none⟩ (.int .i64 u_)).setCell ⟨w2.heap.size, 2, none⟩ (.int .i64 (u_ + sz))).heap[w2.heap.size]? = some (.cells #[.bool false, .int .i64 u_, .int .i64 (u_ + sz)] 36 (0, 0)) := blk_set (blk_set (blk_set BN.out 0 _) 1 _) 2 _
          have T8 : (((w3.setCell ⟨w2.heap.size, 0, none⟩ (.bool false)).setCell ⟨w2.heap.size, 1, none⟩ (.int .i64 u_)).setCell ⟨w2.heap.size, 2, none⟩ (.int .i64 (u_ + sz))).drew.cell? ⟨w2.heap.size, 0, none⟩ = some (.bool false) ∧ (((w3.setCell ⟨w2.heap.size, 0, none⟩ (.bool false)).setCell ⟨w2.heap.size, 1, none⟩ (.int .i64 u_)).setCell ⟨w2.heap.size, 2, none⟩ (.int .i64 (u_ + sz))).drew.cell? ⟨w2.heap.size, 1, none⟩ = some (.int .i64 u_) ∧ (((w3.setCell ⟨w2.heap.size, 0, none⟩ (.bool false)).setCell ⟨w2.heap.size, 1, none⟩ (.int .i64 u_)).setCell ⟨w2.heap.size, 2, none⟩ (.int .i64 (u_ + sz))).drew.cell? ⟨w2.heap.size, 2, none⟩ = some (.int .i64 (u_ + sz)) ∧ (((w3.setCell ⟨w2.heap.size, 0, none⟩ (.bool false)).setCell ⟨w2.heap.size, 1, none⟩ (.int .i64 u_)).setCell ⟨w2.heap.size, 2, none⟩ (.int .i64 (u_ + sz))).drew.cell? p_ = some (.bool false) ∧ (((w3.setCell ⟨w2.heap.size, 0, none⟩ (.bool false)).setCell ⟨w2.heap.size, 1, none⟩ (.int .i64 u_)).setCell ⟨w2.heap.size, 2, none⟩ (.int .i64 (u_ + sz))).drew.cell? ⟨p_.block, p_.off + 1, none⟩ = some (.int .i64 u_) ∧ (((w3.setCell ⟨w2.heap.size, 0, none⟩ (.bool false)).setCell ⟨w2.heap.size, 1, none⟩ (.int .i64 u_)).setCell ⟨w2.heap.size, 2, none⟩ (.int .i64 (u_ + sz))).drew.cell? ⟨p_.block, p_.off + 2, none⟩ = some (.int .i64 (u_ + sz)) ∧ Aside0 (Below w.heap.size w (((w3.setCell ⟨w2.heap.size, 0, none⟩ (.bool false)).setCell ⟨w2.heap.size, 1, none⟩ (.int .i64 u_)).setCell ⟨w2.heap.size, 2, none⟩ (.int .i64 (u_ + sz))).drew) := St8 (below_drew (Below.refl _ _)) ⟨(blk_cell BG 0).trans rfl, (blk_cell BG 1).trans rfl, (blk_cell BG 2).trans rfl, HH.2.2.2.2⟩
          clear HH BG
          go_wp2_with fail
          go_region_held3 (fun z => z.cell? ⟨w2.heap.size, 0, none⟩ = some (.bool false) ∧ z.cell? ⟨w2.heap.size, 1, none⟩ = some (.int .i64 u_) ∧ z.cell? ⟨w2.heap.size, 2, none⟩ = some (.int .i64 (u_ + sz)) ∧ z.cell? p_ = some (.bool false) ∧ z.cell? ⟨p_.block, p_.off + 1, none⟩ = some (.int .i64 u_) ∧ z.cell? ⟨p_.block, p_.off + 2, none⟩ = some (.int .i64 (u_ + sz)) ∧ Aside0 (Below w.heap.size w z)) (first | exact K | exact T8 | assumption)
            (first
            | (go_at_call 37; refine (winEqual_any ⟨_, _, _⟩ ⟨_, _, _⟩ _).mono ?_; rintro e_ w5 ⟨rfl, hb⟩; rw [HS.out]; have K : w5.cell? ⟨w2.heap.size, 0, none⟩ = some (.bool false) ∧ w5.cell? ⟨w2.heap.size, 1, none⟩ = some (.int .i64 u_) ∧ w5.cell? ⟨w2.heap.size, 2, none⟩ = some (.int .i64 (u_ + sz)) ∧ w5.cell? p_ = some (.bool false) ∧ w5.cell? ⟨p_.block, p_.off + 1, none⟩ = some (.int .i64 u_) ∧ w5.cell? ⟨p_.block, p_.off + 2, none⟩ = some (.int .i64 (u_ + sz)) ∧ Aside0 (Below w.heap.size w w5) := St8 hb (by assumption); clear hb)
            | (go_at_call 23; refine (awake_any _).mono ?_; rintro e_ w6 ⟨rfl, hb⟩; have K6 : w6.cell? ⟨w2.heap.size, 0, none⟩ = some (.bool false) ∧ w6.cell? ⟨w2.heap.size, 1, none⟩ = some (.int .i64 u_) ∧ w6.cell? ⟨w2.heap.size, 2, none⟩ = some (.int .i64 (u_ + sz)) ∧ w6.cell? p_ = some (.bool false) ∧ w6.cell? ⟨p_.block, p_.off + 1, none⟩ = some (.int .i64 u_) ∧ w6.cell? ⟨p_.block, p_.off + 2, none⟩ = some (.int .i64 (u_ + sz)) ∧ Aside0 (Below w.heap.size w w6) := St8 hb (by assumption); have K := K6; clear hb))
          all_goals
            go_wp2
            go_ret
            exact ⟨rfl, K6.2.2.2.2.2.2.out⟩
end Go.Proofs.Ytdifeleddhefnaa
