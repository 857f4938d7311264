/- The walk of FnWinMap. -/
import Derived.Test.YtdifeleddhefnaaMpn
import Derived.Test.YtdifeleddhefnaaLawE
import Derived.Test.YtdifeleddhefnaaLawW
import Derived.Deep.RegionHeld3
set_option linter.unusedVariables false
set_option linter.unusedSimpArgs false
namespace Go.Proofs.Ytdifeleddhefnaa
open Go.RowKit Go.Proofs.YtdifeleddhefnaaW.PrintWords

theorem last_any (s e : Int) (h0 : -9000000000000000000 ≤ e) (h1 : e ≤ 9223372036854775807) (w : World) : Calls Try.prog 41 #[.agg #[.bool false, .int .i64 s, .int .i64 e]] w fun r w' => r = .returned (.int .i64 (e - 1)) ∧ Below w.heap.size w w' := by
  go_enter Try.func41, Try.ntmps41
  go_wp2
  go_ret
  exact ⟨rfl, below_alloc (Below.refl _ _) _⟩
/-- What a call of 'FnWinMap' has boxed. -/
def BN2 (k sz pd gp : Int) (g : Bool) (s e : Int) (w z : World) : Prop := z.heap[w.heap.size]? = some (.cells #[.int .u8 k, .int .i64 sz, .int .i64 pd, .int .i64 gp] 23 (0, 0)) ∧ z.heap[w.heap.size + 1]? = some (.cells #[.bool g, .int .i64 s, .int .i64 e] 50 (0, 0)) ∧ Below w.heap.size w z
theorem BN2.all {k sz pd gp : Int} {g : Bool} {s e : Int} {w z : World} (h : BN2 k sz pd gp g s e w z) : z.cell? ⟨w.heap.size, 0, none⟩ = some (.int .u8 k) ∧ z.cell? ⟨w.heap.size, 1, none⟩ = some (.int .i64 sz) ∧ z.cell? ⟨w.heap.size, 2, none⟩ = some (.int .i64 pd) ∧ z.cell? ⟨w.heap.size, 3, none⟩ = some (.int .i64 gp) ∧ z.cell? ⟨w.heap.size + 1, 0, none⟩ = some (.bool g) ∧ z.cell? ⟨w.heap.size + 1, 1, none⟩ = some (.int .i64 s) ∧ z.cell? ⟨w.heap.size + 1, 2, none⟩ = some (.int .i64 e) ∧ Aside0 (BN2 k sz pd gp g s e w z) :=
  ⟨(blk_cell h.1 0).trans rfl, (blk_cell h.1 1).trans rfl, (blk_cell h.1 2).trans rfl, (blk_cell h.1 3).trans rfl, (blk_cell h.2.1 0).trans rfl, (blk_cell h.2.1 1).trans rfl, (blk_cell h.2.1 2).trans rfl, ⟨h⟩⟩
theorem BN2.step {k sz pd gp : Int} {g : Bool} {s e : Int} {w z z' : World} (hb : Below z.heap.size z z') (h : z.cell? ⟨w.heap.size, 0, none⟩ = some (.int .u8 k) ∧ z.cell? ⟨w.heap.size, 1, none⟩ = some (.int .i64 sz) ∧ z.cell? ⟨w.heap.size, 2, none⟩ = some (.int .i64 pd) ∧ z.cell? ⟨w.heap.size, 3, none⟩ = some (.int .i64 gp) ∧ z.cell? ⟨w.heap.size + 1, 0, none⟩ = some (.bool g) ∧ z.cell? ⟨w.heap.size + 1, 1, none⟩ = some (.int .i64 s) ∧ z.cell? ⟨w.heap.size + 1, 2, none⟩ = some (.int .i64 e) ∧ Aside0 (BN2 k sz pd gp g s e w z)) : z'.cell? ⟨w.heap.size, 0, none⟩ = some (.int .u8 k) ∧ z'.cell? ⟨w.heap.size, 1, none⟩ = some (.int .i64 sz) ∧ z'.cell? ⟨w.heap.size, 2, none⟩ = some (.int .i64 pd) ∧ z'.cell? ⟨w.heap.size, 3, none⟩ = some (.int .i64 gp) ∧ z'.cell? ⟨w.heap.size + 1, 0, none⟩ = some (.bool g) ∧ z'.cell? ⟨w.heap.size + 1, 1, none⟩ = some (.int .i64 s) ∧ z'.cell? ⟨w.heap.size + 1, 2, none⟩ = some (.int .i64 e) ∧ Aside0 (BN2 k sz pd gp g s e w z') :=
  BN2.all ⟨blk_below h.2.2.2.2.2.2.2.out.1 hb, blk_below h.2.2.2.2.2.2.2.out.2.1 hb, below_then h.2.2.2.2.2.2.2.out.2.2 h.2.2.2.2.2.2.2.out.2.2.size hb⟩
theorem BN2.start (k sz pd gp : Int) (g : Bool) (s e : Int) (w : World) : BN2 k sz pd gp g s e w ((w.alloc (.cells #[.int .u8 k, .int .i64 sz, .int .i64 pd, .int .i64 gp] 23)).alloc (.cells #[.bool g, .int .i64 s, .int .i64 e] 50)) := by
  refine ⟨blk_alloc (heap_alloc_new w _) _, ?_, below_alloc (below_alloc (Below.refl _ _) _) _⟩
  have h := heap_alloc_new (w.alloc (.cells #[.int .u8 k, .int .i64 sz, .int .i64 pd, .int .i64 gp] 23)) (.cells #[.bool g, .int .i64 s, .int .i64 e] 50)
  rw [World.size_alloc] at h
  exact h
set_option maxRecDepth 100000 in
set_option maxHeartbeats 4000000 in
theorem winMap_walk (k sz pd gp : Int) (g : Bool) (s e : Int) (w0 : (Lit.int .u8 k).wf = true) (w1 : (Lit.int .i64 sz).wf = true) (w2 : (Lit.int .i64 pd).wf = true) (w3 : (Lit.int .i64 gp).wf = true) (w5 : (Lit.int .i64 s).wf = true) (w6 : (Lit.int .i64 e).wf = true) (w : World) :
    Calls Try.prog 14 #[.agg #[.int .u8 k, .int .i64 sz, .int .i64 pd, .int .i64 gp], .agg #[.bool g, .int .i64 s, .int .i64 e]] w fun r w' => r = .returned (.bool true) ∧ Below w.heap.size w w' := by
  have k0 := (u8_bd' w0).1
  clear w0 w1 w2 w3 w5 w6
  have K0 := BN2.all (BN2.start k sz pd gp g s e w)
  cases hF : isF ⟨k, sz, pd, gp⟩
  · go_enter Try.func14, Try.ntmps14
    go_wp2_with ((go_at_call 18; refine (isF_any ⟨k, sz, pd, gp⟩ k0 _).mono ?_; rintro r_ w1 ⟨rfl, hb⟩; rw [hF]; have K1 := BN2.step hb K0; have x4 := K1.2.2.2.2.1; have x5 := K1.2.2.2.2.2.1; have x6 := K1.2.2.2.2.2.2.1; clear hb))
    go_ret
    exact ⟨rfl, K1.2.2.2.2.2.2.2.out.2.2⟩
  cases hS : isSp ⟨g, s, e⟩
  · skip
    go_enter Try.func14, Try.ntmps14
    go_wp2_with (first
      | (go_at_call 18; refine (isF_any ⟨k, sz, pd, gp⟩ k0 _).mono ?_; rintro r_ w1 ⟨rfl, hb⟩; rw [hF]; have K1 := BN2.step hb K0; have x4 := K1.2.2.2.2.1; have x5 := K1.2.2.2.2.2.1; have x6 := K1.2.2.2.2.2.2.1; clear hb)
      | (go_at_call 40; refine (isSpan_any ⟨_, s, e⟩ _).mono ?_; rintro r_ w2 ⟨rfl, hb⟩; rw [hS]; clear x4 x5 x6; have K2 := BN2.step hb K1; have x4 := K2.2.2.2.2.1; have x5 := K2.2.2.2.2.2.1; have x6 := K2.2.2.2.2.2.2.1; clear hb))
    go_ret
    exact ⟨rfl, K2.2.2.2.2.2.2.2.out.2.2⟩
  cases g
  rotate_left
  · skip
    go_enter Try.func14, Try.ntmps14
    go_wp2_with (first
      | (go_at_call 18; refine (isF_any ⟨k, sz, pd, gp⟩ k0 _).mono ?_; rintro r_ w1 ⟨rfl, hb⟩; rw [hF]; have K1 := BN2.step hb K0; have x4 := K1.2.2.2.2.1; have x5 := K1.2.2.2.2.2.1; have x6 := K1.2.2.2.2.2.2.1; clear hb)
      | (go_at_call 40; refine (isSpan_any ⟨_, s, e⟩ _).mono ?_; rintro r_ w2 ⟨rfl, hb⟩; rw [hS]; clear x4 x5 x6; have K2 := BN2.step hb K1; have x4 := K2.2.2.2.2.1; have x5 := K2.2.2.2.2.2.1; have x6 := K2.2.2.2.2.2.2.1; clear hb))
    go_ret
    exact ⟨rfl, K2.2.2.2.2.2.2.2.out.2.2⟩
  have hsp : (s < e ∧ -1125899906842624 ≤ s) ∧ e ≤ 1125899906842624 := by
    have h := hS
    simp only [isSp, Bool.false_eq_true, if_false, Bool.and_eq_true, decide_eq_true_eq] at h
    exact h
  by_cases c1 : e < 1
  · skip
    go_enter Try.func14, Try.ntmps14
    go_wp2_with (first
      | (go_at_call 18; refine (isF_any ⟨k, sz, pd, gp⟩ k0 _).mono ?_; rintro r_ w1 ⟨rfl, hb⟩; rw [hF]; have K1 := BN2.step hb K0; have x4 := K1.2.2.2.2.1; have x5 := K1.2.2.2.2.2.1; have x6 := K1.2.2.2.2.2.2.1; clear hb)
      | (go_at_call 40; refine (isSpan_any ⟨_, s, e⟩ _).mono ?_; rintro r_ w2 ⟨rfl, hb⟩; rw [hS]; clear x4 x5 x6; have K2 := BN2.step hb K1; have x4 := K2.2.2.2.2.1; have x5 := K2.2.2.2.2.2.1; have x6 := K2.2.2.2.2.2.2.1; clear hb))
    go_ret
    exact ⟨rfl, K2.2.2.2.2.2.2.2.out.2.2⟩
  by_cases c2 : 562949953421312 < e
  · skip
    go_enter Try.func14, Try.ntmps14
    go_wp2_with (first
      | (go_at_call 18; refine (isF_any ⟨k, sz, pd, gp⟩ k0 _).mono ?_; rintro r_ w1 ⟨rfl, hb⟩; rw [hF]; have K1 := BN2.step hb K0; have x4 := K1.2.2.2.2.1; have x5 := K1.2.2.2.2.2.1; have x6 := K1.2.2.2.2.2.2.1; clear hb)
      | (go_at_call 40; refine (isSpan_any ⟨_, s, e⟩ _).mono ?_; rintro r_ w2 ⟨rfl, hb⟩; rw [hS]; clear x4 x5 x6; have K2 := BN2.step hb K1; have x4 := K2.2.2.2.2.1; have x5 := K2.2.2.2.2.2.1; have x6 := K2.2.2.2.2.2.2.1; clear hb))
    go_ret
    exact ⟨rfl, K2.2.2.2.2.2.2.2.out.2.2⟩
  have HF := Aside0.mk (isF_FT (t := e - 1) hF (.inl (by omega)) (by omega))
  have q1 : (1 : Int) ≤ e := by omega
  have q2 : e ≤ 562949953421312 := by omega
  have HE := Aside0.mk (And.intro q1 q2)
  obtain ⟨l, hl⟩ : ∃ l, placed ⟨k, sz, pd, gp⟩ (e - 1) = l := ⟨_, rfl⟩
  have HP := Aside0.mk hl
  have HPL := Aside0.mk (show l.length ≤ 1000000000 by rw [← hl]; exact placed_len HF.out.s)
  have HNZ := Aside0.mk (show l.map nz = l by rw [← hl]; exact placed_nz _ _)
  clear hl hsp
  go_enter Try.func14, Try.ntmps14
  go_wp2_with (first
    | (go_at_call 18; refine (isF_any ⟨k, sz, pd, gp⟩ k0 _).mono ?_; rintro r_ w1 ⟨rfl, hb⟩; rw [hF]; have K1 := BN2.step hb K0; have x4 := K1.2.2.2.2.1; have x5 := K1.2.2.2.2.2.1; have x6 := K1.2.2.2.2.2.2.1; clear hb)
    | (go_at_call 40; refine (isSpan_any ⟨_, s, e⟩ _).mono ?_; rintro r_ w2 ⟨rfl, hb⟩; rw [hS]; clear x4 x5 x6; have K2 := BN2.step hb K1; have x4 := K2.2.2.2.2.1; have x5 := K2.2.2.2.2.2.1; have x6 := K2.2.2.2.2.2.2.1; clear hb))
  have KA := BN2.step (below_drew (Below.refl _ _)) K2
  clear K0 K1 x4 x5 x6
  go_region_held3 (fun z => z.cell? ⟨w.heap.size, 0, none⟩ = some (.int .u8 k) ∧ z.cell? ⟨w.heap.size, 1, none⟩ = some (.int .i64 sz) ∧ z.cell? ⟨w.heap.size, 2, none⟩ = some (.int .i64 pd) ∧ z.cell? ⟨w.heap.size, 3, none⟩ = some (.int .i64 gp) ∧ z.cell? ⟨w.heap.size + 1, 0, none⟩ = some (.bool false) ∧ z.cell? ⟨w.heap.size + 1, 1, none⟩ = some (.int .i64 s) ∧ z.cell? ⟨w.heap.size + 1, 2, none⟩ = some (.int .i64 e) ∧ Aside0 (BN2 k sz pd gp false s e w z)) (first | exact K | exact KA | assumption)
    (first
    | (go_at_call 41; refine (last_any s e (by have := HE.out.1; omega) (by have := HE.out.2; omega) _).mono ?_; rintro r_ w4 ⟨rfl, hb⟩; have K := BN2.step hb KA; clear hb)
    | (go_at_call 22; refine (winPlaced_any ⟨k, sz, pd, gp⟩ (e - 1) HF.out _).mono ?_; rintro r_ w5 ⟨v_, rfl, hR, hb⟩; rw [HP.out] at hR; obtain ⟨A_, c_, hv_, hc_, hC_⟩ := reads_sp hR; subst hv_; have HC := Aside0.mk hC_; have HCC := Aside0.mk hc_; have KB := BN2.step hb K; have K := KB; clear hb hR hc_ hC_))
  all_goals
    clear KA K2
    rcases Nat.eq_zero_or_pos l.length with hz | hz
    · obtain rfl : l = [] := List.eq_nil_of_length_eq_zero hz
      clear hz
      have k1 := KB.1
      have k2 := KB.2.1
      have k3 := KB.2.2.1
      have k4 := KB.2.2.2.1
      have k5 := KB.2.2.2.2.1
      have k6 := KB.2.2.2.2.2.1
      have k7 := KB.2.2.2.2.2.2.1
      go_wp2_with (first
        | (go_at_call 42; refine (winMap_none k sz pd gp s e _ HF.out HP.out (by have := HE.out.1; omega) (by have := HE.out.2; omega)).mono ?_; rintro r_ w6 ⟨rfl, hb⟩; have HB := Aside0.mk (below_then KB.2.2.2.2.2.2.2.out.2.2 KB.2.2.2.2.2.2.2.out.2.2.size hb); clear hb)
        | (go_at_call 23; refine (awake_any _).mono ?_; rintro r_ w7 ⟨rfl, hb⟩; have HB7 := Aside0.mk (below_then (below_alloc HB.out (.cells #[.bool false, .int .i64 0, .int .i64 0] 36)) (below_alloc HB.out (.cells #[.bool false, .int .i64 0, .int .i64 0] 36)).size hb); clear hb))
      go_ret
      exact ⟨rfl, HB7.out⟩
    · have k1 := KB.1
      have k2 := KB.2.1
      have k3 := KB.2.2.1
      have k4 := KB.2.2.2.1
      have k5 := KB.2.2.2.2.1
      have k6 := KB.2.2.2.2.2.1
      have k7 := KB.2.2.2.2.2.2.1
      have HZ := Aside0.mk hz
      have qz : ((l.length : Int) == 0) = false := beq_eq_false_iff_ne.mpr (by omega)
      obtain ⟨ad, ea, hy0, hy1, hy2⟩ := atSp HC.out (l.length - 1) (by omega)
      subst ea
      have HNX := Aside0.mk (show nz (rdSp l (l.length - 1)) = rdSp l (l.length - 1) by
        have h := HNZ.out
        have hi : l.length - 1 < l.length := by omega
        have h2 : (l.map nz)[l.length - 1]? = l[l.length - 1]? := by rw [h]
        rw [List.getElem?_map, List.getElem?_eq_getElem hi] at h2
        have h3 : nz l[l.length - 1] = l[l.length - 1] := by simpa using h2
        have h4 : rdSp l (l.length - 1) = l[l.length - 1] := by simp [rdSp, List.getD_eq_getElem?_getD, hi]
        rw [h4]; exact h3)
      have HY := Aside0.mk (And.intro hy0 (And.intro hy1 hy2))
      clear hy0 hy1 hy2 hz
      generalize hX : rdSp l (l.length - 1) = X at HNX HY
      have HX := Aside0.mk hX
      clear hX
      go_wp2_with (go_at_call 42; refine (winMap_any k sz pd gp ⟨false, s, e⟩ l _ HF.out HP.out HZ.out (by have := HE.out.1; simp only; omega) (by have := HE.out.2; simp only; omega)).mono ?_; rintro r_ w6 ⟨rfl, hb⟩; rw [HX.out, HNX.out]; have HB := Aside0.mk (below_then KB.2.2.2.2.2.2.2.out.2.2 KB.2.2.2.2.2.2.2.out.2.2.size hb); have HY := Aside0.mk (And.intro ((hb.cell (World.block_lt_of_cell? _ _ HY.out.1)).trans HY.out.1) (And.intro ((hb.cell (World.block_lt_of_cell? _ _ HY.out.2.1)).trans HY.out.2.1) ((hb.cell (World.block_lt_of_cell? _ _ HY.out.2.2)).trans HY.out.2.2))); clear hb)
      have hst : ∀ {c : Addr} {v : Value}, w6.cell? c = some v → (w6.alloc (.cells #[.bool X.g, .int .i64 X.s, .int .i64 X.e] 36)).drew.cell? c = some v := fun hc => pw_cell_below (below_alloc (Below.refl w6.heap.size w6) _) hc
      have BX := heap_alloc_new w6 (.cells #[.bool X.g, .int .i64 X.s, .int .i64 X.e] 36)
      have KC : (w6.alloc (.cells #[.bool X.g, .int .i64 X.s, .int .i64 X.e] 36)).drew.cell? ⟨w6.heap.size, 0, none⟩ = some (.bool X.g) ∧ (w6.alloc (.cells #[.bool X.g, .int .i64 X.s, .int .i64 X.e] 36)).drew.cell? ⟨w6.heap.size, 1, none⟩ = some (.int .i64 X.s) ∧ (w6.alloc (.cells #[.bool X.g, .int .i64 X.s, .int .i64 X.e] 36)).drew.cell? ⟨w6.heap.size, 2, none⟩ = some (.int .i64 X.e) ∧ (w6.alloc (.cells #[.bool X.g, .int .i64 X.s, .int .i64 X.e] 36)).drew.cell? (ad.add ((l.length - 1) * 3)) = some (.bool X.g) ∧ (w6.alloc (.cells #[.bool X.g, .int .i64 X.s, .int .i64 X.e] 36)).drew.cell? ⟨(ad.add ((l.length - 1) * 3)).block, (ad.add ((l.length - 1) * 3)).off + 1, none⟩ = some (.int .i64 X.s) ∧ (w6.alloc (.cells #[.bool X.g, .int .i64 X.s, .int .i64 X.e] 36)).drew.cell? ⟨(ad.add ((l.length - 1) * 3)).block, (ad.add ((l.length - 1) * 3)).off + 2, none⟩ = some (.int .i64 X.e) ∧ Aside0 (Below w.heap.size w (w6.alloc (.cells #[.bool X.g, .int .i64 X.s, .int .i64 X.e] 36)).drew) := ⟨(blk_cell BX 0).trans rfl, (blk_cell BX 1).trans rfl, (blk_cell BX 2).trans rfl, hst HY.out.1, hst HY.out.2.1, hst HY.out.2.2, ⟨below_drew (below_alloc HB.out _)⟩⟩
      have hEq := eqST (x := X) (y := X) rfl
      have q3 : IntKind.i64.wrap ((l.length : Int) - 1) = (l.length : Int) - 1 := IntWalk.i64_in _ (by have := HPL.out; have := HZ.out; omega)
      have q4 : (0 : Int) ≤ (l.length : Int) - 1 := by have := HZ.out; omega
      have q5 : (1 : Int) ≤ (l.length : Int) := by have := HZ.out; omega
      have q6 : ((l.length : Int) - 1).toNat = l.length - 1 := by omega
      have q7 : (l.length : Int) - 1 < (l.length : Int) := by omega
      have q8 : 0 < l.length := HZ.out
      clear hst BX k1 k2 k3 k4 k5 k6 k7 qz KB K
      go_wp2_with fail
      go_region_held3 (fun z => z.cell? ⟨w6.heap.size, 0, none⟩ = some (.bool X.g) ∧ z.cell? ⟨w6.heap.size, 1, none⟩ = some (.int .i64 X.s) ∧ z.cell? ⟨w6.heap.size, 2, none⟩ = some (.int .i64 X.e) ∧ z.cell? (ad.add ((l.length - 1) * 3)) = some (.bool X.g) ∧ z.cell? ⟨(ad.add ((l.length - 1) * 3)).block, (ad.add ((l.length - 1) * 3)).off + 1, none⟩ = some (.int .i64 X.s) ∧ z.cell? ⟨(ad.add ((l.length - 1) * 3)).block, (ad.add ((l.length - 1) * 3)).off + 2, none⟩ = some (.int .i64 X.e) ∧ Aside0 (Below w.heap.size w z)) (first | exact K | exact KC | assumption)
        ((go_at_call 23; refine (awake_any _).mono ?_; rintro r_ w7 ⟨rfl, hb⟩; have K : w7.cell? ⟨w6.heap.size, 0, none⟩ = some (.bool X.g) ∧ w7.cell? ⟨w6.heap.size, 1, none⟩ = some (.int .i64 X.s) ∧ w7.cell? ⟨w6.heap.size, 2, none⟩ = some (.int .i64 X.e) ∧ w7.cell? (ad.add ((l.length - 1) * 3)) = some (.bool X.g) ∧ w7.cell? ⟨(ad.add ((l.length - 1) * 3)).block, (ad.add ((l.length - 1) * 3)).off + 1, none⟩ = some (.int .i64 X.s) ∧ w7.cell? ⟨(ad.add ((l.length - 1) * 3)).block, (ad.add ((l.length - 1) * 3)).off + 2, none⟩ = some (.int .i64 X.e) ∧ Aside0 (Below w.heap.size w w7) := ⟨(hb.cell (World.block_lt_of_cell? _ _ KC.1)).trans KC.1, (hb.cell (World.block_lt_of_cell? _ _ KC.2.1)).trans KC.2.1, (hb.cell (World.block_lt_of_cell? _ _ KC.2.2.1)).trans KC.2.2.1, (hb.cell (World.block_lt_of_cell? _ _ KC.2.2.2.1)).trans KC.2.2.2.1, (hb.cell (World.block_lt_of_cell? _ _ KC.2.2.2.2.1)).trans KC.2.2.2.2.1, (hb.cell (World.block_lt_of_cell? _ _ KC.2.2.2.2.2.1)).trans KC.2.2.2.2.2.1, ⟨below_then KC.2.2.2.2.2.2.out KC.2.2.2.2.2.2.out.size hb⟩⟩; clear hb))
      all_goals
        go_wp2
        go_ret
        exact ⟨rfl, K.2.2.2.2.2.2.out⟩
end Go.Proofs.Ytdifeleddhefnaa
