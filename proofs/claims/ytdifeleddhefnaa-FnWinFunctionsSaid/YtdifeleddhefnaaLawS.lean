/- The walk of FnWinShift. -/
import Derived.Test.YtdifeleddhefnaaLawA
import Derived.Deep.RegionHeld3
set_option linter.unusedVariables false
set_option linter.unusedSimpArgs false
namespace Go.Proofs.Ytdifeleddhefnaa
open Go.RowKit Go.Proofs.YtdifeleddhefnaaW.PrintWords

theorem rdSp_map {d : Int} {l : List Sp} {i : Nat} (h : i < l.length) : rdSp (l.map (sh d)) i = sh d (rdSp l i) := by
  unfold rdSp
  simp [List.getD_eq_getElem?_getD, List.getElem?_map, List.getElem?_eq_getElem h]
theorem placed_bd {f : WF} {t : Int} (h : FT f t) (h0 : 0 ≤ t) : ∀ x ∈ placed f t, -1000000000000000 ≤ x.s ∧ x.s ≤ 1000000000000000 ∧ -1000000000000000 ≤ x.e ∧ x.e ≤ 1000000000000000 := by
  obtain ⟨⟨s0, s1⟩, ⟨p0, p1⟩, ⟨g0, g1⟩, f1, f2, f3, t1⟩ := h
  intro x hx
  unfold placed at hx
  by_cases k1 : f.k = 1
  · rw [if_pos k1] at hx
    obtain rfl := List.mem_singleton.1 hx
    have := fxs_bd (t := t) (f1 k1).1
    refine ⟨?_, ?_, ?_, ?_⟩ <;> simp only <;> omega
  · rw [if_neg k1] at hx
    by_cases k2 : f.k = 2
    · rw [if_pos k2] at hx
      have r0 := Int.emod_nonneg t (show f.pd ≠ 0 by have := f2 k2; omega)
      obtain ⟨hg, hs, he, hes⟩ := slid_has (hi := t) (f2 k2).2.1 _ _ (by omega) x hx
      omega
    · rw [if_neg k2] at hx
      by_cases k3 : f.k = 3
      · rw [if_pos k3] at hx
        obtain rfl := List.mem_singleton.1 hx
        refine ⟨?_, ?_, ?_, ?_⟩ <;> simp only <;> omega
      · rw [if_neg k3] at hx
        obtain rfl := List.mem_singleton.1 hx
        decide
set_option maxRecDepth 100000 in
set_option maxHeartbeats 4000000 in
theorem winShift_1 (sz t n : Int) (hF : isF ⟨1, sz, 0, 0⟩ = true) (t0 : 0 ≤ t) (t1 : t ≤ 562949953421312) (n0 : 0 ≤ n) (n1 : n ≤ 1000) (w : World) :
    Calls Try.prog 6 #[.agg #[.int .u8 1, .int .i64 sz, .int .i64 0, .int .i64 0], .int .i64 t, .int .i64 n] w fun e w' => e = .returned (.bool true) ∧ Below w.heap.size w w' := by
  have k0 : (0 : Int) ≤ 1 := by decide
  have hfin : ∀ x, Below (w.alloc (.cells #[.int .u8 1, .int .i64 sz, .int .i64 0, .int .i64 0] 23)).heap.size (w.alloc (.cells #[.int .u8 1, .int .i64 sz, .int .i64 0, .int .i64 0] 23)) x → Below w.heap.size w x := fun x hb => (below_alloc (Below.refl w.heap.size w) _).trans (hb.mono (by simp))
  have HFin := Aside0.mk hfin
  clear hfin
  have hFa := Aside0.mk (isF_FT (t := t) hF (by omega) (by omega))
  obtain ⟨hs0, hs1⟩ := hFa.out.s
  have hz : 1 ≤ sz := (hFa.out.f1 rfl).1
  simp only at hs0 hs1
  have m0 : 0 ≤ n * sz := Int.mul_nonneg n0 hs0
  have m1 : n * sz ≤ 1000 * 1000000000 := Int.mul_le_mul n1 hs1 hs0 (by decide)
  have hFb := Aside0.mk (isF_FT (t := t + n * sz) hF (by omega) (by omega))
  have hsh : placed ⟨1, sz, 0, 0⟩ (t + n * sz) = (placed ⟨1, sz, 0, 0⟩ t).map (sh (n * sz)) := by
    have := placed_shift (f := ⟨1, sz, 0, 0⟩) (t := t) (n := n) (by simp) (by simp) (by simp) (by simp) (by simp)
    simpa using this
  have HSH := Aside0.mk hsh
  clear hsh
  have HLN := Aside0.mk (placed_len (f := ⟨1, sz, 0, 0⟩) (t := t) hFa.out.s)
  obtain ⟨l_, hl_⟩ : ∃ l, Aside0 (placed ⟨1, sz, 0, 0⟩ t = l) := ⟨_, ⟨rfl⟩⟩
  rw [hl_.out] at HLN HSH
  have HBD := Aside0.mk (placed_bd hFa.out t0)
  rw [hl_.out] at HBD
  have hwr : IntKind.i64.wrap (t + n * sz) = t + n * sz := IntWalk.i64_in _ (by omega)
  go_enter Try.func6, Try.ntmps6
  go_wp2_with (go_at_call 18; refine (isF_any ⟨1, sz, 0, 0⟩ k0 _).mono ?_; rintro e w1 ⟨rfl, hb⟩; rw [hF]; obtain ⟨x0, x1, x2, x3, K1⟩ := Bx.all (k := 1) (sz := sz) (pd := 0) (gp := 0) (w := w) (x := w1) ⟨blk_below (heap_alloc_new w _) hb, HFin.out _ hb⟩; clear hb)
  clear x0 x1 x2 x3
  have K := Bx.all (k := 1) (sz := sz) (pd := 0) (gp := 0) (w := w) (x := w1.drew) (Bx.step K1.out (below_drew (Below.refl w1.heap.size w1)))
  go_region_held3 (fun x => x.cell? ⟨w.heap.size, 0, none⟩ = some (.int .u8 1) ∧ x.cell? ⟨w.heap.size, 1, none⟩ = some (.int .i64 sz) ∧ x.cell? ⟨w.heap.size, 2, none⟩ = some (.int .i64 0) ∧ x.cell? ⟨w.heap.size, 3, none⟩ = some (.int .i64 0) ∧ Aside0 (Bx 1 sz 0 0 w x)) (first | exact K | assumption)
    (first
    | (go_at_call 21; refine (winAssign_any ⟨1, sz, 0, 0⟩ _ ?ft _).mono ?_; (case ft => first | exact hFa.out | exact hFb.out); rintro e_ w2 ⟨r_, rfl, hR, hb⟩; (first | rw [hl_.out] at hR | rw [HSH.out] at hR); first | (have h2 := HA1; have K3 : w2.cell? ⟨w.heap.size, 0, none⟩ = some (.int .u8 1) ∧ w2.cell? ⟨w.heap.size, 1, none⟩ = some (.int .i64 sz) ∧ w2.cell? ⟨w.heap.size, 2, none⟩ = some (.int .i64 0) ∧ w2.cell? ⟨w.heap.size, 3, none⟩ = some (.int .i64 0) ∧ Aside0 (Bx 1 sz 0 0 w w2) := Bx.step2 hb (by assumption); have HA2 := Aside0.mk (Kd.C_below HA1.out hb); obtain ⟨B_, d_, hv_, hc_, hC_⟩ := reads_sp hR; subst hv_; have HD := Aside0.mk hc_; have HB2 := Aside0.mk hC_; clear h2 HA1 hb hR hc_ hC_) | (have K2 : w2.cell? ⟨w.heap.size, 0, none⟩ = some (.int .u8 1) ∧ w2.cell? ⟨w.heap.size, 1, none⟩ = some (.int .i64 sz) ∧ w2.cell? ⟨w.heap.size, 2, none⟩ = some (.int .i64 0) ∧ w2.cell? ⟨w.heap.size, 3, none⟩ = some (.int .i64 0) ∧ Aside0 (Bx 1 sz 0 0 w w2) := Bx.step2 hb (by assumption); obtain ⟨A_, c_, hv_, hc_, hC_⟩ := reads_sp hR; subst hv_; have HC := Aside0.mk hc_; have HA1 := Aside0.mk hC_; clear hb hR hc_ hC_)))
  all_goals
    clear hwr K K2 K1
    have HB := Aside0.mk K3.2.2.2.2.out.2
    clear K3
    have hml : (l_.map (sh (n * sz))).length = l_.length := by simp
    rw [hml] at HB2 HD
    try rw [hml]
    have HML := Aside0.mk hml
    clear hml
    go_wp2_with fail
    go_loopg [68] l_.length (fun kq v68 w' => ∃ i : Nat, i ≤ l_.length ∧ Aside0 (kq = l_.length - i) ∧ v68 = .int .i64 i ∧ Drawn0 w2 w')
    case atStart => exact ⟨0, Nat.zero_le _, ⟨by simp⟩, rfl, by repeat (first | exact Drawn0.refl _ | apply Drawn0.step)⟩
    case round =>
      obtain ⟨i, hi, hq, rfl, ⟨m1, rfl⟩⟩ := hrel
      by_cases hlt : i < l_.length
      · obtain ⟨ad, e0, hx0, hx1, hx2⟩ := atSp HA2.out i hlt
        cases e0
        obtain ⟨bd, e1, hy0, hy1, hy2⟩ := atSp HB2.out i hlt
        cases e1
        rw [rdSp_map hlt] at hy0 hy1 hy2
        obtain ⟨b1, b2, b3, b4⟩ := HBD.out _ (rdSp_mem hlt)
        have q0 : (i : Int) < (l_.length : Int) := by omega
        have q2 : (0 : Int) ≤ (i : Int) := by omega
        have q5 : (l_.length : Int) ≤ 1000000000 := by have := HLN.out; omega
        generalize rdSp l_ i = x at *
        obtain ⟨g, s, e⟩ := x
        simp only [sh] at hx0 hx1 hx2 hy0 hy1 hy2 b1 b2 b3 b4
        have v1 : IntKind.i64.wrap (s + n * sz) = s + n * sz := IntWalk.i64_in _ (by omega)
        have v2 : IntKind.i64.wrap (e + n * sz) = e + n * sz := IntWalk.i64_in _ (by omega)
        clear b1 b2 b3 b4
        go_wp2
        repeat (go_quiet (fail); try go_wp2)
        go_roundg (l_.length - (i + 1))
        case measure => have := hq.out; omega
        case rel => exact ⟨i + 1, by omega, ⟨rfl⟩, by go_num, by repeat (first | exact Drawn0.refl _ | apply Drawn0.step)⟩
      · have hkl : Aside0 (i = l_.length) := ⟨by omega⟩
        go_wp2_with (go_at_call 23; refine (awake_any _).mono ?_; rintro e w6 ⟨rfl, hb⟩; have HZ := Aside0.mk (below_then ((below_then HB.out HB.out.size (Drawn0.below (by repeat (first | exact Drawn0.refl _ | apply Drawn0.step))) : Below w.heap.size w _)) ((below_then HB.out HB.out.size (Drawn0.below (by repeat (first | exact Drawn0.refl _ | apply Drawn0.step))) : Below w.heap.size w _)).size hb); clear hb)
        go_ret
        exact ⟨rfl, HZ.out⟩
set_option maxRecDepth 100000 in
set_option maxHeartbeats 4000000 in
theorem winShift_2 (sz pd t n : Int) (hF : isF ⟨2, sz, pd, 0⟩ = true) (t0 : 0 ≤ t) (t1 : t ≤ 562949953421312) (n0 : 0 ≤ n) (n1 : n ≤ 1000) (w : World) :
    Calls Try.prog 6 #[.agg #[.int .u8 2, .int .i64 sz, .int .i64 pd, .int .i64 0], .int .i64 t, .int .i64 n] w fun e w' => e = .returned (.bool true) ∧ Below w.heap.size w w' := by
  have k0 : (0 : Int) ≤ 2 := by decide
  have hfin : ∀ x, Below (w.alloc (.cells #[.int .u8 2, .int .i64 sz, .int .i64 pd, .int .i64 0] 23)).heap.size (w.alloc (.cells #[.int .u8 2, .int .i64 sz, .int .i64 pd, .int .i64 0] 23)) x → Below w.heap.size w x := fun x hb => (below_alloc (Below.refl w.heap.size w) _).trans (hb.mono (by simp))
  have HFin := Aside0.mk hfin
  clear hfin
  have hFa := Aside0.mk (isF_FT (t := t) hF (by omega) (by omega))
  obtain ⟨hs0, hs1⟩ := hFa.out.p
  have hz : 1 ≤ pd := (hFa.out.f2 rfl).2.1
  simp only at hs0 hs1
  have m0 : 0 ≤ n * pd := Int.mul_nonneg n0 hs0
  have m1 : n * pd ≤ 1000 * 1000000000 := Int.mul_le_mul n1 hs1 hs0 (by decide)
  have hFb := Aside0.mk (isF_FT (t := t + n * pd) hF (by omega) (by omega))
  have hsh : placed ⟨2, sz, pd, 0⟩ (t + n * pd) = (placed ⟨2, sz, pd, 0⟩ t).map (sh (n * pd)) := by
    have := placed_shift (f := ⟨2, sz, pd, 0⟩) (t := t) (n := n) (by simp) (by simp) (by simp) (by simp) (by simp)
    simpa using this
  have HSH := Aside0.mk hsh
  clear hsh
  have HLN := Aside0.mk (placed_len (f := ⟨2, sz, pd, 0⟩) (t := t) hFa.out.s)
  obtain ⟨l_, hl_⟩ : ∃ l, Aside0 (placed ⟨2, sz, pd, 0⟩ t = l) := ⟨_, ⟨rfl⟩⟩
  rw [hl_.out] at HLN HSH
  have HBD := Aside0.mk (placed_bd hFa.out t0)
  rw [hl_.out] at HBD
  have hwr : IntKind.i64.wrap (t + n * pd) = t + n * pd := IntWalk.i64_in _ (by omega)
  go_enter Try.func6, Try.ntmps6
  go_wp2_with (go_at_call 18; refine (isF_any ⟨2, sz, pd, 0⟩ k0 _).mono ?_; rintro e w1 ⟨rfl, hb⟩; rw [hF]; obtain ⟨x0, x1, x2, x3, K1⟩ := Bx.all (k := 2) (sz := sz) (pd := pd) (gp := 0) (w := w) (x := w1) ⟨blk_below (heap_alloc_new w _) hb, HFin.out _ hb⟩; clear hb)
  clear x0 x1 x2 x3
  have K := Bx.all (k := 2) (sz := sz) (pd := pd) (gp := 0) (w := w) (x := w1.drew) (Bx.step K1.out (below_drew (Below.refl w1.heap.size w1)))
  go_region_held3 (fun x => x.cell? ⟨w.heap.size, 0, none⟩ = some (.int .u8 2) ∧ x.cell? ⟨w.heap.size, 1, none⟩ = some (.int .i64 sz) ∧ x.cell? ⟨w.heap.size, 2, none⟩ = some (.int .i64 pd) ∧ x.cell? ⟨w.heap.size, 3, none⟩ = some (.int .i64 0) ∧ Aside0 (Bx 2 sz pd 0 w x)) (first | exact K | assumption)
    (first
    | (go_at_call 21; refine (winAssign_any ⟨2, sz, pd, 0⟩ _ ?ft _).mono ?_; (case ft => first | exact hFa.out | exact hFb.out); rintro e_ w2 ⟨r_, rfl, hR, hb⟩; (first | rw [hl_.out] at hR | rw [HSH.out] at hR); first | (have h2 := HA1; have K3 : w2.cell? ⟨w.heap.size, 0, none⟩ = some (.int .u8 2) ∧ w2.cell? ⟨w.heap.size, 1, none⟩ = some (.int .i64 sz) ∧ w2.cell? ⟨w.heap.size, 2, none⟩ = some (.int .i64 pd) ∧ w2.cell? ⟨w.heap.size, 3, none⟩ = some (.int .i64 0) ∧ Aside0 (Bx 2 sz pd 0 w w2) := Bx.step2 hb (by assumption); have HA2 := Aside0.mk (Kd.C_below HA1.out hb); obtain ⟨B_, d_, hv_, hc_, hC_⟩ := reads_sp hR; subst hv_; have HD := Aside0.mk hc_; have HB2 := Aside0.mk hC_; clear h2 HA1 hb hR hc_ hC_) | (have K2 : w2.cell? ⟨w.heap.size, 0, none⟩ = some (.int .u8 2) ∧ w2.cell? ⟨w.heap.size, 1, none⟩ = some (.int .i64 sz) ∧ w2.cell? ⟨w.heap.size, 2, none⟩ = some (.int .i64 pd) ∧ w2.cell? ⟨w.heap.size, 3, none⟩ = some (.int .i64 0) ∧ Aside0 (Bx 2 sz pd 0 w w2) := Bx.step2 hb (by assumption); obtain ⟨A_, c_, hv_, hc_, hC_⟩ := reads_sp hR; subst hv_; have HC := Aside0.mk hc_; have HA1 := Aside0.mk hC_; clear hb hR hc_ hC_)))
  all_goals
    clear hwr K K2 K1
    have HB := Aside0.mk K3.2.2.2.2.out.2
    clear K3
    have hml : (l_.map (sh (n * pd))).length = l_.length := by simp
    rw [hml] at HB2 HD
    try rw [hml]
    have HML := Aside0.mk hml
    clear hml
    go_wp2_with fail
    go_loopg [68] l_.length (fun kq v68 w' => ∃ i : Nat, i ≤ l_.length ∧ Aside0 (kq = l_.length - i) ∧ v68 = .int .i64 i ∧ Drawn0 w2 w')
    case atStart => exact ⟨0, Nat.zero_le _, ⟨by simp⟩, rfl, by repeat (first | exact Drawn0.refl _ | apply Drawn0.step)⟩
    case round =>
      obtain ⟨i, hi, hq, rfl, ⟨m1, rfl⟩⟩ := hrel
      by_cases hlt : i < l_.length
      · obtain ⟨ad, e0, hx0, hx1, hx2⟩ := atSp HA2.out i hlt
        cases e0
        obtain ⟨bd, e1, hy0, hy1, hy2⟩ := atSp HB2.out i hlt
        cases e1
        rw [rdSp_map hlt] at hy0 hy1 hy2
        obtain ⟨b1, b2, b3, b4⟩ := HBD.out _ (rdSp_mem hlt)
        have q0 : (i : Int) < (l_.length : Int) := by omega
        have q2 : (0 : Int) ≤ (i : Int) := by omega
        have q5 : (l_.length : Int) ≤ 1000000000 := by have := HLN.out; omega
        generalize rdSp l_ i = x at *
        obtain ⟨g, s, e⟩ := x
        simp only [sh] at hx0 hx1 hx2 hy0 hy1 hy2 b1 b2 b3 b4
        have v1 : IntKind.i64.wrap (s + n * pd) = s + n * pd := IntWalk.i64_in _ (by omega)
        have v2 : IntKind.i64.wrap (e + n * pd) = e + n * pd := IntWalk.i64_in _ (by omega)
        clear b1 b2 b3 b4
        go_wp2
        repeat (go_quiet (fail); try go_wp2)
        go_roundg (l_.length - (i + 1))
        case measure => have := hq.out; omega
        case rel => exact ⟨i + 1, by omega, ⟨rfl⟩, by go_num, by repeat (first | exact Drawn0.refl _ | apply Drawn0.step)⟩
      · have hkl : Aside0 (i = l_.length) := ⟨by omega⟩
        go_wp2_with (go_at_call 23; refine (awake_any _).mono ?_; rintro e w6 ⟨rfl, hb⟩; have HZ := Aside0.mk (below_then ((below_then HB.out HB.out.size (Drawn0.below (by repeat (first | exact Drawn0.refl _ | apply Drawn0.step))) : Below w.heap.size w _)) ((below_then HB.out HB.out.size (Drawn0.below (by repeat (first | exact Drawn0.refl _ | apply Drawn0.step))) : Below w.heap.size w _)).size hb); clear hb)
        go_ret
        exact ⟨rfl, HZ.out⟩
set_option maxRecDepth 100000 in
set_option maxHeartbeats 4000000 in
theorem winShift_3 (gp t n : Int) (hF : isF ⟨3, 0, 0, gp⟩ = true) (t0 : 0 ≤ t) (t1 : t ≤ 562949953421312) (n0 : 0 ≤ n) (n1 : n ≤ 1000) (w : World) :
    Calls Try.prog 6 #[.agg #[.int .u8 3, .int .i64 0, .int .i64 0, .int .i64 gp], .int .i64 t, .int .i64 n] w fun e w' => e = .returned (.bool true) ∧ Below w.heap.size w w' := by
  have k0 : (0 : Int) ≤ 3 := by decide
  have hfin : ∀ x, Below (w.alloc (.cells #[.int .u8 3, .int .i64 0, .int .i64 0, .int .i64 gp] 23)).heap.size (w.alloc (.cells #[.int .u8 3, .int .i64 0, .int .i64 0, .int .i64 gp] 23)) x → Below w.heap.size w x := fun x hb => (below_alloc (Below.refl w.heap.size w) _).trans (hb.mono (by simp))
  have HFin := Aside0.mk hfin
  clear hfin
  have hFa := Aside0.mk (isF_FT (t := t) hF (by omega) (by omega))
  obtain ⟨hs0, hs1⟩ := hFa.out.g
  have hz : 1 ≤ gp := (isF_gap hF).2.1 rfl
  simp only at hs0 hs1
  have m0 : 0 ≤ n * gp := Int.mul_nonneg n0 hs0
  have m1 : n * gp ≤ 1000 * 1000000000 := Int.mul_le_mul n1 hs1 hs0 (by decide)
  have hFb := Aside0.mk (isF_FT (t := t + n) hF (by omega) (by omega))
  have hsh : placed ⟨3, 0, 0, gp⟩ (t + n) = (placed ⟨3, 0, 0, gp⟩ t).map (sh (n)) := by
    have := placed_shift (f := ⟨3, 0, 0, gp⟩) (t := t) (n := n) (by simp) (by simp) (by simp) (by simp) (by simp)
    simpa using this
  have HSH := Aside0.mk hsh
  clear hsh
  have HLN := Aside0.mk (placed_len (f := ⟨3, 0, 0, gp⟩) (t := t) hFa.out.s)
  obtain ⟨l_, hl_⟩ : ∃ l, Aside0 (placed ⟨3, 0, 0, gp⟩ t = l) := ⟨_, ⟨rfl⟩⟩
  rw [hl_.out] at HLN HSH
  have HBD := Aside0.mk (placed_bd hFa.out t0)
  rw [hl_.out] at HBD
  have hwr : IntKind.i64.wrap (t + n) = t + n := IntWalk.i64_in _ (by omega)
  go_enter Try.func6, Try.ntmps6
  go_wp2_with (go_at_call 18; refine (isF_any ⟨3, 0, 0, gp⟩ k0 _).mono ?_; rintro e w1 ⟨rfl, hb⟩; rw [hF]; obtain ⟨x0, x1, x2, x3, K1⟩ := Bx.all (k := 3) (sz := 0) (pd := 0) (gp := gp) (w := w) (x := w1) ⟨blk_below (heap_alloc_new w _) hb, HFin.out _ hb⟩; clear hb)
  clear x0 x1 x2 x3
  have K := Bx.all (k := 3) (sz := 0) (pd := 0) (gp := gp) (w := w) (x := w1.drew) (Bx.step K1.out (below_drew (Below.refl w1.heap.size w1)))
  go_region_held3 (fun x => x.cell? ⟨w.heap.size, 0, none⟩ = some (.int .u8 3) ∧ x.cell? ⟨w.heap.size, 1, none⟩ = some (.int .i64 0) ∧ x.cell? ⟨w.heap.size, 2, none⟩ = some (.int .i64 0) ∧ x.cell? ⟨w.heap.size, 3, none⟩ = some (.int .i64 gp) ∧ Aside0 (Bx 3 0 0 gp w x)) (first | exact K | assumption)
    (first
    | (go_at_call 21; refine (winAssign_any ⟨3, 0, 0, gp⟩ _ ?ft _).mono ?_; (case ft => first | exact hFa.out | exact hFb.out); rintro e_ w2 ⟨r_, rfl, hR, hb⟩; (first | rw [hl_.out] at hR | rw [HSH.out] at hR); first | (have h2 := HA1; have K3 : w2.cell? ⟨w.heap.size, 0, none⟩ = some (.int .u8 3) ∧ w2.cell? ⟨w.heap.size, 1, none⟩ = some (.int .i64 0) ∧ w2.cell? ⟨w.heap.size, 2, none⟩ = some (.int .i64 0) ∧ w2.cell? ⟨w.heap.size, 3, none⟩ = some (.int .i64 gp) ∧ Aside0 (Bx 3 0 0 gp w w2) := Bx.step2 hb (by assumption); have HA2 := Aside0.mk (Kd.C_below HA1.out hb); obtain ⟨B_, d_, hv_, hc_, hC_⟩ := reads_sp hR; subst hv_; have HD := Aside0.mk hc_; have HB2 := Aside0.mk hC_; clear h2 HA1 hb hR hc_ hC_) | (have K2 : w2.cell? ⟨w.heap.size, 0, none⟩ = some (.int .u8 3) ∧ w2.cell? ⟨w.heap.size, 1, none⟩ = some (.int .i64 0) ∧ w2.cell? ⟨w.heap.size, 2, none⟩ = some (.int .i64 0) ∧ w2.cell? ⟨w.heap.size, 3, none⟩ = some (.int .i64 gp) ∧ Aside0 (Bx 3 0 0 gp w w2) := Bx.step2 hb (by assumption); obtain ⟨A_, c_, hv_, hc_, hC_⟩ := reads_sp hR; subst hv_; have HC := Aside0.mk hc_; have HA1 := Aside0.mk hC_; clear hb hR hc_ hC_)))
  all_goals
    clear hwr K K2 K1
    have HB := Aside0.mk K3.2.2.2.2.out.2
    clear K3
    have hml : (l_.map (sh (n))).length = l_.length := by simp
    rw [hml] at HB2 HD
    try rw [hml]
    have HML := Aside0.mk hml
    clear hml
    go_wp2_with fail
    go_loopg [68] l_.length (fun kq v68 w' => ∃ i : Nat, i ≤ l_.length ∧ Aside0 (kq = l_.length - i) ∧ v68 = .int .i64 i ∧ Drawn0 w2 w')
    case atStart => exact ⟨0, Nat.zero_le _, ⟨by simp⟩, rfl, by repeat (first | exact Drawn0.refl _ | apply Drawn0.step)⟩
    case round =>
      obtain ⟨i, hi, hq, rfl, ⟨m1, rfl⟩⟩ := hrel
      by_cases hlt : i < l_.length
      · obtain ⟨ad, e0, hx0, hx1, hx2⟩ := atSp HA2.out i hlt
        cases e0
        obtain ⟨bd, e1, hy0, hy1, hy2⟩ := atSp HB2.out i hlt
        cases e1
        rw [rdSp_map hlt] at hy0 hy1 hy2
        obtain ⟨b1, b2, b3, b4⟩ := HBD.out _ (rdSp_mem hlt)
        have q0 : (i : Int) < (l_.length : Int) := by omega
        have q2 : (0 : Int) ≤ (i : Int) := by omega
        have q5 : (l_.length : Int) ≤ 1000000000 := by have := HLN.out; omega
        generalize rdSp l_ i = x at *
        obtain ⟨g, s, e⟩ := x
        simp only [sh] at hx0 hx1 hx2 hy0 hy1 hy2 b1 b2 b3 b4
        have v1 : IntKind.i64.wrap (s + n) = s + n := IntWalk.i64_in _ (by omega)
        have v2 : IntKind.i64.wrap (e + n) = e + n := IntWalk.i64_in _ (by omega)
        clear b1 b2 b3 b4
        go_wp2
        repeat (go_quiet (fail); try go_wp2)
        go_roundg (l_.length - (i + 1))
        case measure => have := hq.out; omega
        case rel => exact ⟨i + 1, by omega, ⟨rfl⟩, by go_num, by repeat (first | exact Drawn0.refl _ | apply Drawn0.step)⟩
      · have hkl : Aside0 (i = l_.length) := ⟨by omega⟩
        go_wp2_with (go_at_call 23; refine (awake_any _).mono ?_; rintro e w6 ⟨rfl, hb⟩; have HZ := Aside0.mk (below_then ((below_then HB.out HB.out.size (Drawn0.below (by repeat (first | exact Drawn0.refl _ | apply Drawn0.step))) : Below w.heap.size w _)) ((below_then HB.out HB.out.size (Drawn0.below (by repeat (first | exact Drawn0.refl _ | apply Drawn0.step))) : Below w.heap.size w _)).size hb); clear hb)
        go_ret
        exact ⟨rfl, HZ.out⟩
theorem isF_size {k sz pd gp : Int} (h : isF ⟨k, sz, pd, gp⟩ = true) (h1 : k ≠ 1) (h2 : k ≠ 2) : sz = 0 := by
  simp only [isF, Bool.and_eq_true, decide_eq_true_eq] at h
  obtain ⟨h3, hs, hp, hg, hd⟩ := h
  have : (k == 1 || k == 2) = false := by simp [h1, h2]
  rw [this] at hs; simpa [in9] using hs
set_option maxRecDepth 100000 in
set_option maxHeartbeats 2000000 in
theorem winShift_walk0 (sz pd gp t n : Int) (hF : isF ⟨0, sz, pd, gp⟩ = true) (w : World) :
    Calls Try.prog 6 #[.agg #[.int .u8 0, .int .i64 sz, .int .i64 pd, .int .i64 gp], .int .i64 t, .int .i64 n] w fun e w' => e = .returned (.bool true) ∧ Below w.heap.size w w' := by
  have k0 : (0 : Int) ≤ 0 := by decide
  have hfin : ∀ x, Below (w.alloc (.cells #[.int .u8 0, .int .i64 sz, .int .i64 pd, .int .i64 gp] 23)).heap.size (w.alloc (.cells #[.int .u8 0, .int .i64 sz, .int .i64 pd, .int .i64 gp] 23)) x → Below w.heap.size w x := fun x hb => (below_alloc (Below.refl w.heap.size w) _).trans (hb.mono (by simp))
  have HFin := Aside0.mk hfin
  clear hfin
  go_enter Try.func6, Try.ntmps6
  go_wp2_with (go_at_call 18; refine (isF_any ⟨0, sz, pd, gp⟩ k0 _).mono ?_; rintro e w1 ⟨rfl, hb⟩; rw [hF]; obtain ⟨x0, x1, x2, x3, K1⟩ := Bx.all (k := 0) (sz := sz) (pd := pd) (gp := gp) (w := w) (x := w1) ⟨blk_below (heap_alloc_new w _) hb, HFin.out _ hb⟩; clear hb)
  go_ret
  exact ⟨rfl, K1.out.2⟩
set_option maxRecDepth 100000 in
set_option maxHeartbeats 2000000 in
theorem winShift_walk1 (sz pd gp t n : Int) (hF : isF ⟨1, sz, pd, gp⟩ = true) (w : World) :
    Calls Try.prog 6 #[.agg #[.int .u8 1, .int .i64 sz, .int .i64 pd, .int .i64 gp], .int .i64 t, .int .i64 n] w fun e w' => e = .returned (.bool true) ∧ Below w.heap.size w w' := by
  have k0 : (0 : Int) ≤ 1 := by decide
  have hfin : ∀ x, Below (w.alloc (.cells #[.int .u8 1, .int .i64 sz, .int .i64 pd, .int .i64 gp] 23)).heap.size (w.alloc (.cells #[.int .u8 1, .int .i64 sz, .int .i64 pd, .int .i64 gp] 23)) x → Below w.heap.size w x := fun x hb => (below_alloc (Below.refl w.heap.size w) _).trans (hb.mono (by simp))
  have HFin := Aside0.mk hfin
  clear hfin
  by_cases t0 : t < 0
  · go_enter Try.func6, Try.ntmps6
    go_wp2_with (go_at_call 18; refine (isF_any ⟨1, sz, pd, gp⟩ k0 _).mono ?_; rintro e w1 ⟨rfl, hb⟩; rw [hF]; obtain ⟨x0, x1, x2, x3, K1⟩ := Bx.all (k := 1) (sz := sz) (pd := pd) (gp := gp) (w := w) (x := w1) ⟨blk_below (heap_alloc_new w _) hb, HFin.out _ hb⟩; clear hb)
    go_ret
    exact ⟨rfl, K1.out.2⟩
  · by_cases t1 : 562949953421312 < t
    · go_enter Try.func6, Try.ntmps6
      go_wp2_with (go_at_call 18; refine (isF_any ⟨1, sz, pd, gp⟩ k0 _).mono ?_; rintro e w1 ⟨rfl, hb⟩; rw [hF]; obtain ⟨x0, x1, x2, x3, K1⟩ := Bx.all (k := 1) (sz := sz) (pd := pd) (gp := gp) (w := w) (x := w1) ⟨blk_below (heap_alloc_new w _) hb, HFin.out _ hb⟩; clear hb)
      go_ret
      exact ⟨rfl, K1.out.2⟩
    · by_cases n0 : n < 0
      · go_enter Try.func6, Try.ntmps6
        go_wp2_with (go_at_call 18; refine (isF_any ⟨1, sz, pd, gp⟩ k0 _).mono ?_; rintro e w1 ⟨rfl, hb⟩; rw [hF]; obtain ⟨x0, x1, x2, x3, K1⟩ := Bx.all (k := 1) (sz := sz) (pd := pd) (gp := gp) (w := w) (x := w1) ⟨blk_below (heap_alloc_new w _) hb, HFin.out _ hb⟩; clear hb)
        go_ret
        exact ⟨rfl, K1.out.2⟩
      · by_cases n1 : 1000 < n
        · go_enter Try.func6, Try.ntmps6
          go_wp2_with (go_at_call 18; refine (isF_any ⟨1, sz, pd, gp⟩ k0 _).mono ?_; rintro e w1 ⟨rfl, hb⟩; rw [hF]; obtain ⟨x0, x1, x2, x3, K1⟩ := Bx.all (k := 1) (sz := sz) (pd := pd) (gp := gp) (w := w) (x := w1) ⟨blk_below (heap_alloc_new w _) hb, HFin.out _ hb⟩; clear hb)
          go_ret
          exact ⟨rfl, K1.out.2⟩
        · obtain ⟨k3, hg1, hg0, hp0⟩ := isF_gap hF
          obtain rfl := hg0 (by decide)
          obtain rfl := hp0 (by decide)
          exact winShift_1 sz t n hF (by omega) (by omega) (by omega) (by omega) w
set_option maxRecDepth 100000 in
set_option maxHeartbeats 2000000 in
theorem winShift_walk2 (sz pd gp t n : Int) (hF : isF ⟨2, sz, pd, gp⟩ = true) (w : World) :
    Calls Try.prog 6 #[.agg #[.int .u8 2, .int .i64 sz, .int .i64 pd, .int .i64 gp], .int .i64 t, .int .i64 n] w fun e w' => e = .returned (.bool true) ∧ Below w.heap.size w w' := by
  have k0 : (0 : Int) ≤ 2 := by decide
  have hfin : ∀ x, Below (w.alloc (.cells #[.int .u8 2, .int .i64 sz, .int .i64 pd, .int .i64 gp] 23)).heap.size (w.alloc (.cells #[.int .u8 2, .int .i64 sz, .int .i64 pd, .int .i64 gp] 23)) x → Below w.heap.size w x := fun x hb => (below_alloc (Below.refl w.heap.size w) _).trans (hb.mono (by simp))
  have HFin := Aside0.mk hfin
  clear hfin
  by_cases t0 : t < 0
  · go_enter Try.func6, Try.ntmps6
    go_wp2_with (go_at_call 18; refine (isF_any ⟨2, sz, pd, gp⟩ k0 _).mono ?_; rintro e w1 ⟨rfl, hb⟩; rw [hF]; obtain ⟨x0, x1, x2, x3, K1⟩ := Bx.all (k := 2) (sz := sz) (pd := pd) (gp := gp) (w := w) (x := w1) ⟨blk_below (heap_alloc_new w _) hb, HFin.out _ hb⟩; clear hb)
    go_ret
    exact ⟨rfl, K1.out.2⟩
  · by_cases t1 : 562949953421312 < t
    · go_enter Try.func6, Try.ntmps6
      go_wp2_with (go_at_call 18; refine (isF_any ⟨2, sz, pd, gp⟩ k0 _).mono ?_; rintro e w1 ⟨rfl, hb⟩; rw [hF]; obtain ⟨x0, x1, x2, x3, K1⟩ := Bx.all (k := 2) (sz := sz) (pd := pd) (gp := gp) (w := w) (x := w1) ⟨blk_below (heap_alloc_new w _) hb, HFin.out _ hb⟩; clear hb)
      go_ret
      exact ⟨rfl, K1.out.2⟩
    · by_cases n0 : n < 0
      · go_enter Try.func6, Try.ntmps6
        go_wp2_with (go_at_call 18; refine (isF_any ⟨2, sz, pd, gp⟩ k0 _).mono ?_; rintro e w1 ⟨rfl, hb⟩; rw [hF]; obtain ⟨x0, x1, x2, x3, K1⟩ := Bx.all (k := 2) (sz := sz) (pd := pd) (gp := gp) (w := w) (x := w1) ⟨blk_below (heap_alloc_new w _) hb, HFin.out _ hb⟩; clear hb)
        go_ret
        exact ⟨rfl, K1.out.2⟩
      · by_cases n1 : 1000 < n
        · go_enter Try.func6, Try.ntmps6
          go_wp2_with (go_at_call 18; refine (isF_any ⟨2, sz, pd, gp⟩ k0 _).mono ?_; rintro e w1 ⟨rfl, hb⟩; rw [hF]; obtain ⟨x0, x1, x2, x3, K1⟩ := Bx.all (k := 2) (sz := sz) (pd := pd) (gp := gp) (w := w) (x := w1) ⟨blk_below (heap_alloc_new w _) hb, HFin.out _ hb⟩; clear hb)
          go_ret
          exact ⟨rfl, K1.out.2⟩
        · obtain ⟨k3, hg1, hg0, hp0⟩ := isF_gap hF
          obtain rfl := hg0 (by decide)
          exact winShift_2 sz pd t n hF (by omega) (by omega) (by omega) (by omega) w
set_option maxRecDepth 100000 in
set_option maxHeartbeats 2000000 in
theorem winShift_walk3 (sz pd gp t n : Int) (hF : isF ⟨3, sz, pd, gp⟩ = true) (w : World) :
    Calls Try.prog 6 #[.agg #[.int .u8 3, .int .i64 sz, .int .i64 pd, .int .i64 gp], .int .i64 t, .int .i64 n] w fun e w' => e = .returned (.bool true) ∧ Below w.heap.size w w' := by
  have k0 : (0 : Int) ≤ 3 := by decide
  have hfin : ∀ x, Below (w.alloc (.cells #[.int .u8 3, .int .i64 sz, .int .i64 pd, .int .i64 gp] 23)).heap.size (w.alloc (.cells #[.int .u8 3, .int .i64 sz, .int .i64 pd, .int .i64 gp] 23)) x → Below w.heap.size w x := fun x hb => (below_alloc (Below.refl w.heap.size w) _).trans (hb.mono (by simp))
  have HFin := Aside0.mk hfin
  clear hfin
  by_cases t0 : t < 0
  · go_enter Try.func6, Try.ntmps6
    go_wp2_with (go_at_call 18; refine (isF_any ⟨3, sz, pd, gp⟩ k0 _).mono ?_; rintro e w1 ⟨rfl, hb⟩; rw [hF]; obtain ⟨x0, x1, x2, x3, K1⟩ := Bx.all (k := 3) (sz := sz) (pd := pd) (gp := gp) (w := w) (x := w1) ⟨blk_below (heap_alloc_new w _) hb, HFin.out _ hb⟩; clear hb)
    go_ret
    exact ⟨rfl, K1.out.2⟩
  · by_cases t1 : 562949953421312 < t
    · go_enter Try.func6, Try.ntmps6
      go_wp2_with (go_at_call 18; refine (isF_any ⟨3, sz, pd, gp⟩ k0 _).mono ?_; rintro e w1 ⟨rfl, hb⟩; rw [hF]; obtain ⟨x0, x1, x2, x3, K1⟩ := Bx.all (k := 3) (sz := sz) (pd := pd) (gp := gp) (w := w) (x := w1) ⟨blk_below (heap_alloc_new w _) hb, HFin.out _ hb⟩; clear hb)
      go_ret
      exact ⟨rfl, K1.out.2⟩
    · by_cases n0 : n < 0
      · go_enter Try.func6, Try.ntmps6
        go_wp2_with (go_at_call 18; refine (isF_any ⟨3, sz, pd, gp⟩ k0 _).mono ?_; rintro e w1 ⟨rfl, hb⟩; rw [hF]; obtain ⟨x0, x1, x2, x3, K1⟩ := Bx.all (k := 3) (sz := sz) (pd := pd) (gp := gp) (w := w) (x := w1) ⟨blk_below (heap_alloc_new w _) hb, HFin.out _ hb⟩; clear hb)
        go_ret
        exact ⟨rfl, K1.out.2⟩
      · by_cases n1 : 1000 < n
        · go_enter Try.func6, Try.ntmps6
          go_wp2_with (go_at_call 18; refine (isF_any ⟨3, sz, pd, gp⟩ k0 _).mono ?_; rintro e w1 ⟨rfl, hb⟩; rw [hF]; obtain ⟨x0, x1, x2, x3, K1⟩ := Bx.all (k := 3) (sz := sz) (pd := pd) (gp := gp) (w := w) (x := w1) ⟨blk_below (heap_alloc_new w _) hb, HFin.out _ hb⟩; clear hb)
          go_ret
          exact ⟨rfl, K1.out.2⟩
        · obtain ⟨k3, hg1, hg0, hp0⟩ := isF_gap hF
          obtain rfl := hp0 (by decide)
          obtain rfl := isF_size hF (by decide) (by decide)
          exact winShift_3 gp t n hF (by omega) (by omega) (by omega) (by omega) w
set_option maxRecDepth 100000 in
set_option maxHeartbeats 2000000 in
theorem winShift_walk (k sz pd gp t n : Int) (w0 : (Lit.int .u8 k).wf = true) (w1 : (Lit.int .i64 sz).wf = true) (w2 : (Lit.int .i64 pd).wf = true) (w3 : (Lit.int .i64 gp).wf = true) (w4 : (Lit.int .i64 t).wf = true) (w5 : (Lit.int .i64 n).wf = true) (w : World) :
    Calls Try.prog 6 #[.agg #[.int .u8 k, .int .i64 sz, .int .i64 pd, .int .i64 gp], .int .i64 t, .int .i64 n] w fun e w' => e = .returned (.bool true) ∧ Below w.heap.size w w' := by
  have k0 := (u8_bd' w0).1
  clear w0 w1 w2 w3 w4 w5
  have hfin : ∀ x, Below (w.alloc (.cells #[.int .u8 k, .int .i64 sz, .int .i64 pd, .int .i64 gp] 23)).heap.size (w.alloc (.cells #[.int .u8 k, .int .i64 sz, .int .i64 pd, .int .i64 gp] 23)) x → Below w.heap.size w x := fun x hb => (below_alloc (Below.refl w.heap.size w) _).trans (hb.mono (by simp))
  have HFin := Aside0.mk hfin
  clear hfin
  cases hF : isF ⟨k, sz, pd, gp⟩
  · go_enter Try.func6, Try.ntmps6
    go_wp2_with (go_at_call 18; refine (isF_any ⟨k, sz, pd, gp⟩ k0 _).mono ?_; rintro e w1 ⟨rfl, hb⟩; rw [hF]; obtain ⟨x0, x1, x2, x3, K1⟩ := Bx.all (k := k) (sz := sz) (pd := pd) (gp := gp) (w := w) (x := w1) ⟨blk_below (heap_alloc_new w _) hb, HFin.out _ hb⟩; clear hb)
    go_ret
    exact ⟨rfl, K1.out.2⟩
  · obtain ⟨k3, _, _, _⟩ := isF_gap hF
    rcases (show k = 0 ∨ k = 1 ∨ k = 2 ∨ k = 3 by omega) with rfl | rfl | rfl | rfl
    · exact winShift_walk0 sz pd gp t n hF w
    · exact winShift_walk1 sz pd gp t n hF w
    · exact winShift_walk2 sz pd gp t n hF w
    · exact winShift_walk3 sz pd gp t n hF w
end Go.Proofs.Ytdifeleddhefnaa
