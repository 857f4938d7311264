/- Contracts of the reference's functions on windows, and of the statements' own helpers. -/
import Derived.Test.YtdifeleddhefnaaAsg
set_option linter.unusedVariables false
set_option linter.unusedSimpArgs false
namespace Go.Proofs.Ytdifeleddhefnaa
open Go.RowKit Go.Proofs.YtdifeleddhefnaaW.PrintWords

theorem kSp_new (W : World) (e : Nat) (base : Nat) (hb : base ≤ W.heap.size) (x : Sp) : Kd.R kSp e (W.alloc (.cells #[.bool x.g, .int .i64 x.s, .int .i64 x.e] e)) base (fun _ => True) (.slice (some ⟨W.heap.size, 0, none⟩) 1 1) [x] :=
  ⟨fun _ _ => trivial, [.bool x.g, .int .i64 x.s, .int .i64 x.e], World.ownsRow_lit (base := base) (e := e) (size := 3) W #[.bool x.g, .int .i64 x.s, .int .i64 x.e] 1 hb (by decide) rfl, by
    have := Reps.snoc (R := kSp.M (W.alloc (.cells #[.bool x.g, .int .i64 x.s, .int .i64 x.e] e)) base (fun k => True ∧ some k ≠ (Value.slice (some ⟨W.heap.size, 0, none⟩) 1 1).ownBlock)) (size := 3) (p := x) (c := [.bool x.g, .int .i64 x.s, .int .i64 x.e]) (Reps.none _ _) (kSp_mkM _ _ _ _) rfl
    exact this⟩
theorem kSp_at (W : World) (e : Nat) (base : Nat) (x : Sp) (g : Nat) (hg : g = W.heap.size) (hb : base ≤ W.heap.size) : Kd.R kSp e (W.alloc (.cells #[.bool x.g, .int .i64 x.s, .int .i64 x.e] e)) base (fun _ => True) (.slice (some ⟨g, 0, none⟩) 1 1) [x] := by subst hg; exact kSp_new W e base hb x
theorem tmod_neg {sz t : Int} (h1 : 1 ≤ sz) (h2 : -sz < t) (h3 : t < 0) : t.tmod sz = t := by
  obtain ⟨u, rfl⟩ : ∃ u, t = -u := ⟨-t, by omega⟩
  rw [Int.neg_tmod, Int.tmod_eq_emod_of_nonneg (by omega), Int.emod_eq_of_lt (by omega) (by omega)]
theorem emod_neg' {sz t : Int} (h1 : 1 ≤ sz) (h2 : -sz < t) (h3 : t < 0) : t % sz = t + sz := by
  rw [← Int.add_emod_right (b := sz), Int.emod_eq_of_lt (by omega) (by omega)]
theorem WinPlaced_fixed (sz pd gp t : Int) (h1 : 1 ≤ sz) (h2 : sz ≤ 1000000000) (h3 : -sz ≤ t) (h4 : t ≤ 600000000000000) (w : World) :
    Calls Try.prog 22 #[.agg #[.int .u8 1, .int .i64 sz, .int .i64 pd, .int .i64 gp], .int .i64 t] w fun e w' => ∃ v : Value, e = .returned v ∧ Kd.R kSp 50 w' w.heap.size (fun _ => True) v [⟨false, fxs sz t, fxs sz t + sz⟩] ∧ Below w.heap.size w w' := by
  have hz : (sz == 0) = false := by simp; omega
  rcases (show t = -sz ∨ (-sz < t ∧ t < 0) ∨ 0 ≤ t from by omega) with rfl | ⟨ha, hb⟩ | ha
  · have e1 : (-sz).tmod sz = 0 := by rw [Int.neg_tmod, Int.tmod_self]; rfl
    have e2 : fxs sz (-sz) = -sz := by unfold fxs; rw [Int.neg_emod_self]; omega
    rw [e2]
    clear e2
    go_enter Try.func22, Try.ntmps22
    go_wp2
    go_ret
    refine ⟨_, rfl, kSp_at _ 50 _ ⟨false, -sz, -sz + sz⟩ _ ?_ ?_, ?_⟩
    · simp
    · simp
    · repeat (first | exact Below.refl _ _ | apply below_alloc | apply below_drew | apply pw_below_drewN | refine below_set ?_ (by simp) | (refine Below.setCell ?_ (by simp) _))
  · have e1 := tmod_neg h1 ha hb
    have e2 : fxs sz t = -sz := by unfold fxs; rw [emod_neg' h1 ha hb]; omega
    rw [e2]
    clear e2
    go_enter Try.func22, Try.ntmps22
    go_wp2
    go_ret
    refine ⟨_, rfl, kSp_at _ 50 _ ⟨false, -sz, -sz + sz⟩ _ ?_ ?_, ?_⟩
    · simp
    · simp
    · repeat (first | exact Below.refl _ _ | apply below_alloc | apply below_drew | apply pw_below_drewN | refine below_set ?_ (by simp) | (refine Below.setCell ?_ (by simp) _))
  · have m1 := Int.emod_nonneg t (show sz ≠ 0 by omega)
    have m2 := Int.emod_lt_of_pos t (show 0 < sz by omega)
    go_enter Try.func22, Try.ntmps22
    go_wp2
    go_ret
    refine ⟨_, rfl, kSp_at _ 50 _ ⟨false, t - t % sz, t - t % sz + sz⟩ _ ?_ ?_, ?_⟩
    · simp
    · simp
    · repeat (first | exact Below.refl _ _ | apply below_alloc | apply below_drew | apply pw_below_drewN | refine below_set ?_ (by simp) | (refine Below.setCell ?_ (by simp) _))

theorem WinPlaced_sess (sz pd gp t : Int) (h1 : 0 ≤ gp) (h2 : gp ≤ 1000000000) (h3 : 0 ≤ t) (h4 : t ≤ 600000000000000) (w : World) :
    Calls Try.prog 22 #[.agg #[.int .u8 3, .int .i64 sz, .int .i64 pd, .int .i64 gp], .int .i64 t] w fun e w' => ∃ v : Value, e = .returned v ∧ Kd.R kSp 50 w' w.heap.size (fun _ => True) v [⟨false, t, t + gp⟩] ∧ Below w.heap.size w w' := by
  go_enter Try.func22, Try.ntmps22
  go_wp2
  go_ret
  refine ⟨_, rfl, kSp_at _ 50 _ ⟨false, t, t + gp⟩ _ ?_ ?_, ?_⟩
  · simp
  · simp
  · repeat (first | exact Below.refl _ _ | apply below_alloc | apply below_drew | apply pw_below_drewN | refine below_set ?_ (by simp) | (refine Below.setCell ?_ (by simp) _))
theorem WinPlaced_glob (k sz pd gp t : Int) (k1 : ¬ k = 1) (k2 : ¬ k = 2) (k3 : ¬ k = 3) (w : World) :
    Calls Try.prog 22 #[.agg #[.int .u8 k, .int .i64 sz, .int .i64 pd, .int .i64 gp], .int .i64 t] w fun e w' => ∃ v : Value, e = .returned v ∧ Kd.R kSp 50 w' w.heap.size (fun _ => True) v [⟨true, 0, 0⟩] ∧ Below w.heap.size w w' := by
  have n1 : (k == 1) = false := by simpa using k1
  have n2 : (k == 2) = false := by simpa using k2
  have n3 : (k == 3) = false := by simpa using k3
  clear k1 k2 k3
  go_enter Try.func22, Try.ntmps22
  go_wp2
  go_ret
  refine ⟨_, rfl, kSp_at _ 50 _ ⟨true, 0, 0⟩ _ ?_ ?_, ?_⟩
  · simp
  · simp
  · repeat (first | exact Below.refl _ _ | apply below_alloc | apply below_drew | apply pw_below_drewN | refine below_set ?_ (by simp) | (refine Below.setCell ?_ (by simp) _))
set_option maxHeartbeats 2000000 in
set_option maxRecDepth 100000 in
theorem WinPlaced_slid (sz p gp t : Int) (h1 : 1 ≤ sz) (h2 : sz ≤ 1000000000) (p1 : 1 ≤ p) (p2 : p ≤ 1000000000) (h3 : 0 ≤ t) (h4 : t ≤ 600000000000000) (w : World) :
    Calls Try.prog 22 #[.agg #[.int .u8 2, .int .i64 sz, .int .i64 p, .int .i64 gp], .int .i64 t] w fun e w' => ∃ v : Value, e = .returned v ∧ Kd.R kSp 50 w' w.heap.size (fun _ => True) v (slid p sz (t - sz) sz.toNat (t - t % p)) ∧ Below w.heap.size w w' := by
  have hz : (p == 0) = false := by simp; omega
  have m1 := Int.emod_nonneg t (show p ≠ 0 by omega)
  have m2 := Int.emod_lt_of_pos t (show 0 < p by omega)
  obtain ⟨F, hF⟩ : ∃ F, slid p sz (t - sz) sz.toNat (t - t % p) = F := ⟨_, rfl⟩
  rw [hF]
  have HF := Aside0.mk hF
  clear hF
  have HB := Aside0.mk (below_alloc (Below.refl w.heap.size w) (.cells #[.int .u8 2, .int .i64 sz, .int .i64 p, .int .i64 gp] 23))
  have hw : ∀ i, (w.alloc (.cells #[.int .u8 2, .int .i64 sz, .int .i64 p, .int .i64 gp] 23)).cell? ⟨w.heap.size, i, none⟩ = (#[Value.int .u8 2, .int .i64 sz, .int .i64 p, .int .i64 gp])[i]? := fun i => blk_cell (heap_alloc_new w _) i
  have c1 := Aside0.mk (show (w.alloc (.cells #[.int .u8 2, .int .i64 sz, .int .i64 p, .int .i64 gp] 23)).heap[w.heap.size]? = some (.cells #[.int .u8 2, .int .i64 sz, .int .i64 p, .int .i64 gp] 23 (0, 0)) from heap_alloc_new w _)
  clear hw
  go_enter Try.func22, Try.ntmps22
  go_wp2
  go_loopg [6, 7] sz.toNat (fun kq v7 v10 w' => ∃ (acc : List Sp) (st : Int), v10 = .int .i64 st ∧ Aside0 (acc ++ slid p sz (t - sz) kq st = F) ∧ Aside0 (st - (t - sz) ≤ kq) ∧ st ≤ t ∧ t - sz - p < st ∧ Aside0 (acc.length + kq ≤ 1000000000) ∧ Aside0 (Kd.R kSp 50 w' w.heap.size (fun _ => True) v7 acc) ∧ Aside0 (Below w.heap.size w w') ∧ Aside0 (w'.heap[w.heap.size]? = some (.cells #[.int .u8 2, .int .i64 sz, .int .i64 p, .int .i64 gp] 23 (0, 0))))
  case atStart => exact ⟨[], t - t % p, rfl, ⟨by rw [List.nil_append]; exact HF.out⟩, ⟨by omega⟩, by omega, by omega, ⟨by simp; omega⟩, ⟨Kd.R_nil _ _ _ _ _⟩, HB, c1⟩
  case round =>
    clear HB HF c1
    obtain ⟨acc, st, rfl, HA, HK, hs1, hs2, HL, HO, HB, HC⟩ := hrel
    have hc1 : wr.cell? ⟨w.heap.size, 1, none⟩ = some (.int .i64 sz) := (blk_cell HC.out 1).trans rfl
    have hc2 : wr.cell? ⟨w.heap.size, 2, none⟩ = some (.int .i64 p) := (blk_cell HC.out 2).trans rfl
    by_cases hlt : t - sz < st
    · obtain ⟨n, hn⟩ : ∃ n, gk = n + 1 := ⟨gk - 1, by have := HK.out; omega⟩
      subst hn
      have HS := Aside0.mk (slid_step hlt HA.out)
      go_wp2_with (first | ((with_reducible refine gate_builtin (b := .append) (xs := #[.tmp 50, .tmp 57]) rfl ?_); at_builtin; refine Kd.R_append kSp (w0 := w) w.heap.size rfl (.tmp 50) (.tmp 57) 26 50 (.agg #[(.bool false), (.int .i64 0), (.int .i64 0)]) 24 rfl Try.underlying26 info50 rfl (by decide) (by omega) u6 acc ⟨false, st, st + sz⟩ [.bool false, .int .i64 st, .int .i64 (st + sz)] (fun _ => True) (fun _ => False) rfl (by first | (go_simp; done) | (go_simp; rfl)) ?aP (fun _ hk => hk.elim) ?aF ?aO ?aB ?aS ?aL ?_; (case aP => exact kSp_mkM _ _ _ _); (case aB => exact (by repeat (first | (with_reducible first | exact HB.out | apply below_alloc | apply pw_below_drewN | apply below_drew1) | exact HB.out))); (case aF => exact (fun _ _ => trivial)); (case aO => exact (by (with_reducible repeat (first | apply Kd.R_alloc | apply Kd.R_drewN | apply Kd.R_drew)); exact HO.out)); (case aS => exact (below_size (by repeat (first | (with_reducible first | exact HB.out | apply below_alloc | apply pw_below_drewN | apply below_drew1) | exact HB.out)))); (case aL => have := HL.out; omega); intro v107 w8 ho hb hg hat; have n0_ := Aside0.mk (blk_grown HC.out hg (Kd.R_ne HO.out HC.out (by decide))); have n1_ := Aside0.mk (hb); have n2_ := Aside0.mk (ho); clear HC; clear HB; clear HO; have HC := n0_; have HB := n1_; have HO := n2_; clear n0_ n1_ n2_; clear ho hb hg hat; have hc8 : w8.cell? ⟨w.heap.size, 2, none⟩ = some (.int .i64 p) := (blk_cell HC.out 2).trans rfl))
      go_roundg n
      case measure => omega
      case rel => exact ⟨acc ++ [⟨false, st, st + sz⟩], st - p, rfl, HS, ⟨by have := HK.out; omega⟩, by omega, by omega, ⟨by have := HL.out; simp; omega⟩, HO, HB, HC⟩
    · have HS := Aside0.mk (slid_stop hlt HA.out)
      go_wp2
      go_ret
      have HO' := HO.out
      rw [HS.out] at HO'
      exact ⟨_, rfl, HO', HB.out⟩

theorem winPlaced_any (f : WF) (t : Int) (h : FT f t) (w : World) :
    Calls Try.prog 22 #[f.val, .int .i64 t] w fun e w' => ∃ v : Value, e = .returned v ∧ Kd.R kSp 50 w' w.heap.size (fun _ => True) v (placed f t) ∧ Below w.heap.size w w' := by
  obtain ⟨⟨s0, s1⟩, ⟨p0, p1⟩, ⟨g0, g1⟩, f1, f2, f3, t1⟩ := h
  obtain ⟨k, sz, pd, gp⟩ := f
  show Calls Try.prog 22 #[.agg #[.int .u8 k, .int .i64 sz, .int .i64 pd, .int .i64 gp], .int .i64 t] w _
  unfold placed
  by_cases k1 : k = 1
  · subst k1
    rw [if_pos rfl]
    exact WinPlaced_fixed sz pd gp t (f1 rfl).1 s1 (f1 rfl).2 t1 w
  · rw [if_neg k1]
    by_cases k2 : k = 2
    · subst k2
      rw [if_pos rfl]
      exact WinPlaced_slid sz pd gp t (f2 rfl).1 s1 (f2 rfl).2.1 p1 (f2 rfl).2.2 t1 w
    · rw [if_neg k2]
      by_cases k3 : k = 3
      · subst k3
        rw [if_pos rfl]
        exact WinPlaced_sess sz pd gp t g0 g1 (f3 rfl) t1 w
      · rw [if_neg k3]
        exact WinPlaced_glob k sz pd gp t k1 k2 k3 w
end Go.Proofs.Ytdifeleddhefnaa
