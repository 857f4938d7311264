-- PRINTED BY print.sh 35421559b90ae4d0a3588c463048766b98c2df88dd9212a6774a882060cdf62d: not written by this session
import Derived.Test.YtoigekmdicepnaaPFnTimerRunx0
namespace Go.Proofs.Ytoigekmdicepnaa.PFnTimerRun
open Go.RowKit Go.Proofs.YtoigekmdicepnaaW.PrintWords Go.Proofs.YtoigekmdicepnaaW.PrintLast Go.Proofs.YtoigekmdicepnaaW.PrintMore
attribute [local go_sem] max2_int min2_int max_two min_two max_three min_three max_four min_four   -- for this text's walks alone
set_option linter.unusedVariables false
set_option linter.unusedSimpArgs false

/-! ### laws_zzFits6: function 47 -/
def laws_zzFits6.f (a0_0 : Bool) (a0_1 : ByteArray) (a0_2 : Int) (a0_3 : Int) (a0_4 : ByteArray) (a0_5 : Bool) (a0_6 : Int) (a0_7 : Int) : Option (Bool) := if (a0_1.size : Int) > 2147483647 then (some false) else (if (a0_4.size : Int) > 2147483647 then (some false) else (some true))
set_option maxHeartbeats 8000000 in
set_option maxRecDepth 100000 in
theorem laws_zzFits6.calls (a0_0 : Bool) (a0_1 : ByteArray) (a0_2 : Int) (a0_3 : Int) (a0_4 : ByteArray) (a0_5 : Bool) (a0_6 : Int) (a0_7 : Int) (r : Bool) (w : World) (h : laws_zzFits6.f a0_0 a0_1 a0_2 a0_3 a0_4 a0_5 a0_6 a0_7 = some r) :
    Calls Try.prog 47 #[.agg #[.bool a0_0, .string a0_1, .int .i64 a0_2, .int .i64 a0_3, .string a0_4, .bool a0_5, .int .i64 a0_6, .int .i64 a0_7]] w fun e w' => e = .returned (.bool r) ∧ Below w.heap.size w w' := by
  have hu44 := Try.underlying44
  have HB := Aside0.mk (Below.refl w.heap.size w)
  have H : (if (a0_1.size : Int) > 2147483647 then (some false) else (if (a0_4.size : Int) > 2147483647 then (some false) else (some true))) = some r := h
  clear h
  by_cases c2 : (a0_1.size : Int) > 2147483647
  · rw [if_pos c2] at H
    have c2b0 : decide (2147483647 < (a0_1.size : Int)) = true := decide_eq_true c2
    have c2b1 : decide (2147483647 < a0_1.size) = true := decide_eq_true (by omega)
    clear c2
    obtain rfl := Option.some.inj H
    go_enter Try.func47, Try.ntmps47
    go_wp2_with (first | ((with_reducible refine gate_dst (N := 1) rfl ?_); refine box_event ?hg (N := 1) ?hd (cs := #[.bool a0_0, .string a0_1, .int .i64 a0_2, .int .i64 a0_3, .string a0_4, .bool a0_5, .int .i64 a0_6, .int .i64 a0_7]) (t := 44) ?hr ?_; (case hd => rfl); (case hg => rfl); (case hr => first | (go_simp; done) | (go_simp; rfl)); intro gb101 hg w3 hbox hb; have n0_ := Aside0.mk (below_step (by repeat (first | (with_reducible first | exact HB.out | apply below_alloc | apply pw_below_drewN | apply below_drew1) | exact HB.out)) hb); have n1_ := Aside0.mk (hbox); have n2_ := Aside0.mk ((by rw [hg]; exact (below_size (by repeat (first | (with_reducible first | exact HB.out | apply below_alloc | apply pw_below_drewN | apply below_drew1) | exact HB.out))) : w.heap.size ≤ gb101)); have n3_ := Aside0.mk ((by rw [hg]; exact (below_size (by repeat (first | (with_reducible first | exact HB.out | apply below_alloc | apply pw_below_drewN | apply below_drew1) | exact HB.out))) : w.heap.size ≤ gb101)); clear HB; have HB := n0_; have BK101 := n1_; have GW101 := n2_; have GE101 := n3_; clear n0_ n1_ n2_ n3_; clear hb hbox hg; have hcz4_0 : w3.cell? ⟨gb101, 0, none⟩ = some (.bool a0_0) := (blk_cell BK101.out 0).trans rfl; have hcz4_1 : w3.cell? ⟨gb101, 1, none⟩ = some (.string a0_1) := (blk_cell BK101.out 1).trans rfl; have hcz4_2 : w3.cell? ⟨gb101, 2, none⟩ = some (.int .i64 a0_2) := (blk_cell BK101.out 2).trans rfl; have hcz4_3 : w3.cell? ⟨gb101, 3, none⟩ = some (.int .i64 a0_3) := (blk_cell BK101.out 3).trans rfl; have hcz4_4 : w3.cell? ⟨gb101, 4, none⟩ = some (.string a0_4) := (blk_cell BK101.out 4).trans rfl; have hcz4_5 : w3.cell? ⟨gb101, 5, none⟩ = some (.bool a0_5) := (blk_cell BK101.out 5).trans rfl; have hcz4_6 : w3.cell? ⟨gb101, 6, none⟩ = some (.int .i64 a0_6) := (blk_cell BK101.out 6).trans rfl; have hcz4_7 : w3.cell? ⟨gb101, 7, none⟩ = some (.int .i64 a0_7) := (blk_cell BK101.out 7).trans rfl; have hfz4_0 := blk_frozen BK101.out 0; have hfz4_1 := blk_frozen BK101.out 1; have hfz4_2 := blk_frozen BK101.out 2; have hfz4_3 := blk_frozen BK101.out 3; have hfz4_4 := blk_frozen BK101.out 4; have hfz4_5 := blk_frozen BK101.out 5; have hfz4_6 := blk_frozen BK101.out 6; have hfz4_7 := blk_frozen BK101.out 7))
    go_ret
    exact ⟨by first | rfl | (simp [errW_none, errW_some] <;> rfl) | (simp [*, errW_none, errW_some] <;> rfl), by repeat (first | (with_reducible first | exact HB.out | apply below_alloc | apply pw_below_drewN | apply below_drew1 | refine below_set ?_ GE101.out) | exact HB.out)⟩
  · rw [if_neg c2] at H
    have c2b0 : decide (2147483647 < (a0_1.size : Int)) = false := decide_eq_false c2
    have c2b1 : decide (2147483647 < a0_1.size) = false := decide_eq_false (by omega)
    clear c2
    by_cases c5 : (a0_4.size : Int) > 2147483647
    · rw [if_pos c5] at H
      have c5b0 : decide (2147483647 < (a0_4.size : Int)) = true := decide_eq_true c5
      have c5b1 : decide (2147483647 < a0_4.size) = true := decide_eq_true (by omega)
      clear c5
      obtain rfl := Option.some.inj H
      go_enter Try.func47, Try.ntmps47
      go_wp2_with (first | ((with_reducible refine gate_dst (N := 1) rfl ?_); refine box_event ?hg (N := 1) ?hd (cs := #[.bool a0_0, .string a0_1, .int .i64 a0_2, .int .i64 a0_3, .string a0_4, .bool a0_5, .int .i64 a0_6, .int .i64 a0_7]) (t := 44) ?hr ?_; (case hd => rfl); (case hg => rfl); (case hr => first | (go_simp; done) | (go_simp; rfl)); intro gb101 hg w6 hbox hb; have n0_ := Aside0.mk (below_step (by repeat (first | (with_reducible first | exact HB.out | apply below_alloc | apply pw_below_drewN | apply below_drew1) | exact HB.out)) hb); have n1_ := Aside0.mk (hbox); have n2_ := Aside0.mk ((by rw [hg]; exact (below_size (by repeat (first | (with_reducible first | exact HB.out | apply below_alloc | apply pw_below_drewN | apply below_drew1) | exact HB.out))) : w.heap.size ≤ gb101)); have n3_ := Aside0.mk ((by rw [hg]; exact (below_size (by repeat (first | (with_reducible first | exact HB.out | apply below_alloc | apply pw_below_drewN | apply below_drew1) | exact HB.out))) : w.heap.size ≤ gb101)); clear HB; have HB := n0_; have BK101 := n1_; have GW101 := n2_; have GE101 := n3_; clear n0_ n1_ n2_ n3_; clear hb hbox hg; have hcz7_0 : w6.cell? ⟨gb101, 0, none⟩ = some (.bool a0_0) := (blk_cell BK101.out 0).trans rfl; have hcz7_1 : w6.cell? ⟨gb101, 1, none⟩ = some (.string a0_1) := (blk_cell BK101.out 1).trans rfl; have hcz7_2 : w6.cell? ⟨gb101, 2, none⟩ = some (.int .i64 a0_2) := (blk_cell BK101.out 2).trans rfl; have hcz7_3 : w6.cell? ⟨gb101, 3, none⟩ = some (.int .i64 a0_3) := (blk_cell BK101.out 3).trans rfl; have hcz7_4 : w6.cell? ⟨gb101, 4, none⟩ = some (.string a0_4) := (blk_cell BK101.out 4).trans rfl; have hcz7_5 : w6.cell? ⟨gb101, 5, none⟩ = some (.bool a0_5) := (blk_cell BK101.out 5).trans rfl; have hcz7_6 : w6.cell? ⟨gb101, 6, none⟩ = some (.int .i64 a0_6) := (blk_cell BK101.out 6).trans rfl; have hcz7_7 : w6.cell? ⟨gb101, 7, none⟩ = some (.int .i64 a0_7) := (blk_cell BK101.out 7).trans rfl; have hfz7_0 := blk_frozen BK101.out 0; have hfz7_1 := blk_frozen BK101.out 1; have hfz7_2 := blk_frozen BK101.out 2; have hfz7_3 := blk_frozen BK101.out 3; have hfz7_4 := blk_frozen BK101.out 4; have hfz7_5 := blk_frozen BK101.out 5; have hfz7_6 := blk_frozen BK101.out 6; have hfz7_7 := blk_frozen BK101.out 7))
      go_ret
      exact ⟨by first | rfl | (simp [errW_none, errW_some] <;> rfl) | (simp [*, errW_none, errW_some] <;> rfl), by repeat (first | (with_reducible first | exact HB.out | apply below_alloc | apply pw_below_drewN | apply below_drew1 | refine below_set ?_ GE101.out) | exact HB.out)⟩
    · rw [if_neg c5] at H
      have c5b0 : decide (2147483647 < (a0_4.size : Int)) = false := decide_eq_false c5
      have c5b1 : decide (2147483647 < a0_4.size) = false := decide_eq_false (by omega)
      clear c5
      obtain rfl := Option.some.inj H
      go_enter Try.func47, Try.ntmps47
      go_wp2_with (first | ((with_reducible refine gate_dst (N := 1) rfl ?_); refine box_event ?hg (N := 1) ?hd (cs := #[.bool a0_0, .string a0_1, .int .i64 a0_2, .int .i64 a0_3, .string a0_4, .bool a0_5, .int .i64 a0_6, .int .i64 a0_7]) (t := 44) ?hr ?_; (case hd => rfl); (case hg => rfl); (case hr => first | (go_simp; done) | (go_simp; rfl)); intro gb101 hg w8 hbox hb; have n0_ := Aside0.mk (below_step (by repeat (first | (with_reducible first | exact HB.out | apply below_alloc | apply pw_below_drewN | apply below_drew1) | exact HB.out)) hb); have n1_ := Aside0.mk (hbox); have n2_ := Aside0.mk ((by rw [hg]; exact (below_size (by repeat (first | (with_reducible first | exact HB.out | apply below_alloc | apply pw_below_drewN | apply below_drew1) | exact HB.out))) : w.heap.size ≤ gb101)); have n3_ := Aside0.mk ((by rw [hg]; exact (below_size (by repeat (first | (with_reducible first | exact HB.out | apply below_alloc | apply pw_below_drewN | apply below_drew1) | exact HB.out))) : w.heap.size ≤ gb101)); clear HB; have HB := n0_; have BK101 := n1_; have GW101 := n2_; have GE101 := n3_; clear n0_ n1_ n2_ n3_; clear hb hbox hg; have hcz9_0 : w8.cell? ⟨gb101, 0, none⟩ = some (.bool a0_0) := (blk_cell BK101.out 0).trans rfl; have hcz9_1 : w8.cell? ⟨gb101, 1, none⟩ = some (.string a0_1) := (blk_cell BK101.out 1).trans rfl; have hcz9_2 : w8.cell? ⟨gb101, 2, none⟩ = some (.int .i64 a0_2) := (blk_cell BK101.out 2).trans rfl; have hcz9_3 : w8.cell? ⟨gb101, 3, none⟩ = some (.int .i64 a0_3) := (blk_cell BK101.out 3).trans rfl; have hcz9_4 : w8.cell? ⟨gb101, 4, none⟩ = some (.string a0_4) := (blk_cell BK101.out 4).trans rfl; have hcz9_5 : w8.cell? ⟨gb101, 5, none⟩ = some (.bool a0_5) := (blk_cell BK101.out 5).trans rfl; have hcz9_6 : w8.cell? ⟨gb101, 6, none⟩ = some (.int .i64 a0_6) := (blk_cell BK101.out 6).trans rfl; have hcz9_7 : w8.cell? ⟨gb101, 7, none⟩ = some (.int .i64 a0_7) := (blk_cell BK101.out 7).trans rfl; have hfz9_0 := blk_frozen BK101.out 0; have hfz9_1 := blk_frozen BK101.out 1; have hfz9_2 := blk_frozen BK101.out 2; have hfz9_3 := blk_frozen BK101.out 3; have hfz9_4 := blk_frozen BK101.out 4; have hfz9_5 := blk_frozen BK101.out 5; have hfz9_6 := blk_frozen BK101.out 6; have hfz9_7 := blk_frozen BK101.out 7))
      go_ret
      exact ⟨by first | rfl | (simp [errW_none, errW_some] <;> rfl) | (simp [*, errW_none, errW_some] <;> rfl), by repeat (first | (with_reducible first | exact HB.out | apply below_alloc | apply pw_below_drewN | apply below_drew1 | refine below_set ?_ GE101.out) | exact HB.out)⟩

/-! ### laws_zzFits5: function 19 -/
def laws_zzFits5.l0 : Nat → List (S44) → Int → Int → Option (Bool)
  | 0, _, _, _ => none
  | k + 1, x8, x9, x10 => if x10 < x9 then (if 0 ≤ x10 then (if x10 < (x8.length : Int) then ((laws_zzFits6.f ((rd_T44 x8 x10).f0) ((rd_T44 x8 x10).f1) ((rd_T44 x8 x10).f2) ((rd_T44 x8 x10).f3) ((rd_T44 x8 x10).f4) ((rd_T44 x8 x10).f5) ((rd_T44 x8 x10).f6) ((rd_T44 x8 x10).f7)).bind fun t104 => (if t104 = true then (laws_zzFits5.l0 k x8 x9 (wrap64 (x10 + 1))) else (some false))) else (none)) else (none)) else (some true)
def laws_zzFits5.f (k : Nat) (l0 : List (S44)) : Option (Bool) := if (l0.length : Int) > 2147483647 then (some false) else (laws_zzFits5.l0 k l0 (l0.length : Int) 0)
theorem laws_zzFits5.mono_l : ∀ k, (∀ y0 y1 y2, LeO (laws_zzFits5.l0 k y0 y1 y2) (laws_zzFits5.l0 (k + 1) y0 y1 y2))
  | 0 => fun _ _ _ r h => by simp [laws_zzFits5.l0] at h
  | k + 1 => by
    have ih0 := laws_zzFits5.mono_l k
    · intro y0 y1 y2
      unfold laws_zzFits5.l0
      repeat' first
      | (with_reducible exact ih0 _ _ _)
      | (with_reducible exact LeO.refl _)
      | (with_reducible exact LeO.none _)
      | (with_reducible refine LeO.ite ?_ ?_)
      | (with_reducible refine LeO.bind ?_ (fun _ => ?_))
      | exact ih0 _ _ _
      | exact LeO.none _
      | refine LeO.ite ?_ ?_
      | refine LeO.bind ?_ (fun _ => ?_)
theorem laws_zzFits5.mono : ∀ a0 k, LeO (laws_zzFits5.f k a0) (laws_zzFits5.f (k + 1) a0) := by
  intro a0 k
  have ih0 := laws_zzFits5.mono_l k
  unfold laws_zzFits5.f
  repeat' first
      | (with_reducible exact ih0 _ _ _)
      | (with_reducible exact LeO.refl _)
      | (with_reducible exact LeO.none _)
      | (with_reducible refine LeO.ite ?_ ?_)
      | (with_reducible refine LeO.bind ?_ (fun _ => ?_))
      | exact ih0 _ _ _
      | exact LeO.none _
      | refine LeO.ite ?_ ?_
      | refine LeO.bind ?_ (fun _ => ?_)
set_option maxHeartbeats 8000000 in
set_option maxRecDepth 100000 in
theorem laws_zzFits5.calls (k : Nat) (A0 : Option Addr) (c0 : Nat) (l0 : List (S44)) (r : Bool) (w : World) (hr0 : Kd.C k44 w A0 l0.length l0) (hc0 : l0.length ≤ c0) (h : laws_zzFits5.f k l0 = some r) :
    Calls Try.prog 19 #[.slice A0 l0.length c0] w fun e w' => e = .returned (.bool r) ∧ Below w.heap.size w w' := by
  have hu44 := Try.underlying44
  have HR0 := Aside0.mk hr0
  have HC0 := Aside0.mk hc0
  clear hr0 hc0
  have HB := Aside0.mk (Below.refl w.heap.size w)
  have H : (if (l0.length : Int) > 2147483647 then (some false) else (laws_zzFits5.l0 k l0 (l0.length : Int) 0)) = some r := h
  clear h
  by_cases c2 : (l0.length : Int) > 2147483647
  · rw [if_pos c2] at H
    have c2b0 : decide (2147483647 < (l0.length : Int)) = true := decide_eq_true c2
    have c2b1 : decide (2147483647 < l0.length) = true := decide_eq_true (by omega)
    clear c2
    obtain rfl := Option.some.inj H
    go_enter Try.func19, Try.ntmps19
    go_wp2
    go_ret
    exact ⟨by first | rfl | (simp [errW_none, errW_some] <;> rfl) | (simp [*, errW_none, errW_some] <;> rfl), by repeat (first | (with_reducible first | exact HB.out | apply below_alloc | apply pw_below_drewN | apply below_drew1) | exact HB.out)⟩
  · rw [if_neg c2] at H
    have c2b0 : decide (2147483647 < (l0.length : Int)) = false := decide_eq_false c2
    have c2b1 : decide (2147483647 < l0.length) = false := decide_eq_false (by omega)
    clear c2
    have H' := Aside0.mk H
    clear H
    go_enter Try.func19, Try.ntmps19
    go_wp2
    go_loopg [10] k (fun kq v10 w' => ∃ (x10_1 : Int), v10 = .int .i64 x10_1 ∧ Aside0 (laws_zzFits5.l0 kq l0 (l0.length : Int) x10_1 = some r) ∧ Aside0 (kq ≤ k) ∧ Aside0 (Below w.heap.size w w'))
    case atStart => exact ⟨(0), (by first | rfl | (simp; done) | (simp [*]; done)), H', ⟨Nat.le_refl _⟩, ⟨by repeat (first | (with_reducible first | exact HB.out | apply below_alloc | apply pw_below_drewN | apply below_drew1) | exact HB.out)⟩⟩
    case round =>
      clear H'
      try clear c1
      try clear c2
      try clear c2b0
      try clear c2b1
      try clear p2
      obtain ⟨x10_1, rfl, HA, HK1, HB⟩ := hrel
      cases gk with
      | zero => exact absurd HA.out (by simp [laws_zzFits5.l0])
      | succ k1 =>
        have H := HA.out
        clear HA
        simp only [laws_zzFits5.l0] at H
        by_cases c3 : x10_1 < (l0.length : Int)
        · rw [if_pos c3] at H
          have c3b0 : decide (x10_1 < (l0.length : Int)) = true := decide_eq_true c3
          clear c3
          by_cases c4 : 0 ≤ x10_1
          · rw [if_pos c4] at H
            have c4b0 : decide (0 ≤ x10_1) = true := decide_eq_true c4
            clear c4
            by_cases c5 : x10_1 < (l0.length : Int)
            · rw [if_pos c5] at H
              have c5b0 : decide (x10_1 < (l0.length : Int)) = true := decide_eq_true c5
              clear c5
              replace H := Option.bind_eq_some_iff.mp H
              obtain ⟨t104, A60, H⟩ := H
              replace H : (if t104 = true then (laws_zzFits5.l0 k1 l0 (l0.length : Int) (wrap64 (x10_1 + 1))) else (some false)) = some r := H
              have A6 := Aside0.mk A60
              clear A60
              by_cases c7 : t104 = true
              · subst c7
                have H1 : (laws_zzFits5.l0 k1 l0 (l0.length : Int) (wrap64 (x10_1 + 1))) = some r := by rw [if_pos rfl] at H; exact H
                clear H
                have H := H1
                clear H1
                have H' := Aside0.mk H
                clear H
                have p102 : 0 ≤ (x10_1 : Int) := of_decide_eq_true (by first | (with_reducible assumption) | assumption)
                have q102 : x10_1 < (l0.length : Int) := of_decide_eq_true (by first | (with_reducible assumption) | assumption)
                obtain ⟨ad102, e102, hx102_0, hx102_1, hx102_2, hx102_3, hx102_4, hx102_5, hx102_6, hx102_7⟩ := at_T44 HR0.out x10_1 p102 q102
                cases e102
                replace hx102_0 := (HB.out.cell (World.block_lt_of_cell? w _ hx102_0)).trans hx102_0
                replace hx102_1 := (HB.out.cell (World.block_lt_of_cell? w _ hx102_1)).trans hx102_1
                replace hx102_2 := (HB.out.cell (World.block_lt_of_cell? w _ hx102_2)).trans hx102_2
                replace hx102_3 := (HB.out.cell (World.block_lt_of_cell? w _ hx102_3)).trans hx102_3
                replace hx102_4 := (HB.out.cell (World.block_lt_of_cell? w _ hx102_4)).trans hx102_4
                replace hx102_5 := (HB.out.cell (World.block_lt_of_cell? w _ hx102_5)).trans hx102_5
                replace hx102_6 := (HB.out.cell (World.block_lt_of_cell? w _ hx102_6)).trans hx102_6
                replace hx102_7 := (HB.out.cell (World.block_lt_of_cell? w _ hx102_7)).trans hx102_7
                replace p102 := eq_true p102
                replace q102 := eq_true q102
                go_wp2_with (first | ((with_reducible refine gate_dst (N := 4) rfl ?_); refine box_event ?hg (N := 4) ?hd (cs := #[.bool false, .string (⟨#[]⟩ : ByteArray), .int .i64 0, .int .i64 0, .string (⟨#[]⟩ : ByteArray), .bool false, .int .i64 0, .int .i64 0]) (t := 44) ?hr ?_; (case hd => rfl); (case hg => rfl); (case hr => first | (go_simp; done) | (go_simp; rfl)); intro gb103 hg w8 hbox hb; have n0_ := Aside0.mk (below_step (by repeat (first | (with_reducible first | exact HB.out | apply below_alloc | apply pw_below_drewN | apply below_drew1) | exact HB.out)) hb); have n1_ := Aside0.mk (hbox); have n2_ := Aside0.mk ((by rw [hg]; exact (below_size (by repeat (first | (with_reducible first | exact HB.out | apply below_alloc | apply pw_below_drewN | apply below_drew1) | exact HB.out))) : w.heap.size ≤ gb103)); have n3_ := Aside0.mk ((by rw [hg]; exact (below_size (by repeat (first | (with_reducible first | exact HB.out | apply below_alloc | apply pw_below_drewN | apply below_drew1) | exact HB.out))) : w.heap.size ≤ gb103)); clear HB; have HB := n0_; have BK103 := n1_; have GW103 := n2_; have GE103 := n3_; clear n0_ n1_ n2_ n3_; clear hb hbox hg; have hcz9_0 : w8.cell? ⟨gb103, 0, none⟩ = some (.bool false) := (blk_cell BK103.out 0).trans rfl; have hcz9_1 : w8.cell? ⟨gb103, 1, none⟩ = some (.string (⟨#[]⟩ : ByteArray)) := (blk_cell BK103.out 1).trans rfl; have hcz9_2 : w8.cell? ⟨gb103, 2, none⟩ = some (.int .i64 0) := (blk_cell BK103.out 2).trans rfl; have hcz9_3 : w8.cell? ⟨gb103, 3, none⟩ = some (.int .i64 0) := (blk_cell BK103.out 3).trans rfl; have hcz9_4 : w8.cell? ⟨gb103, 4, none⟩ = some (.string (⟨#[]⟩ : ByteArray)) := (blk_cell BK103.out 4).trans rfl; have hcz9_5 : w8.cell? ⟨gb103, 5, none⟩ = some (.bool false) := (blk_cell BK103.out 5).trans rfl; have hcz9_6 : w8.cell? ⟨gb103, 6, none⟩ = some (.int .i64 0) := (blk_cell BK103.out 6).trans rfl; have hcz9_7 : w8.cell? ⟨gb103, 7, none⟩ = some (.int .i64 0) := (blk_cell BK103.out 7).trans rfl; have hfz9_0 := blk_frozen BK103.out 0; have hfz9_1 := blk_frozen BK103.out 1; have hfz9_2 := blk_frozen BK103.out 2; have hfz9_3 := blk_frozen BK103.out 3; have hfz9_4 := blk_frozen BK103.out 4; have hfz9_5 := blk_frozen BK103.out 5; have hfz9_6 := blk_frozen BK103.out 6; have hfz9_7 := blk_frozen BK103.out 7) | ((with_reducible refine gate_callee (f := 47) rfl ?_); refine goesL_ (some 15) rfl rfl Try.func47 (by kernel_rfl) rfl #[.agg #[.bool ((rd_T44 l0 x10_1).f0), .string ((rd_T44 l0 x10_1).f1), .int .i64 ((rd_T44 l0 x10_1).f2), .int .i64 ((rd_T44 l0 x10_1).f3), .string ((rd_T44 l0 x10_1).f4), .bool ((rd_T44 l0 x10_1).f5), .int .i64 ((rd_T44 l0 x10_1).f6), .int .i64 ((rd_T44 l0 x10_1).f7)]] rfl (by (try simp only [List.map_toArray, List.map_cons, List.map_nil]); first | done | rfl | (simp only [List.length_drop, List.length_take]; rfl)) ?_; (with_reducible refine (laws_zzFits6.calls ((rd_T44 l0 x10_1).f0) ((rd_T44 l0 x10_1).f1) ((rd_T44 l0 x10_1).f2) ((rd_T44 l0 x10_1).f3) ((rd_T44 l0 x10_1).f4) ((rd_T44 l0 x10_1).f5) ((rd_T44 l0 x10_1).f6) ((rd_T44 l0 x10_1).f7) true _ A6.out).mono ?_); rintro e w10 ⟨rfl, hb⟩; refine ⟨_, rfl, ?_⟩; have n0_ := Aside0.mk (blk_below (g := gb103) (o := .cells #[.bool ((rd_T44 l0 x10_1).f0), .string ((rd_T44 l0 x10_1).f1), .int .i64 ((rd_T44 l0 x10_1).f2), .int .i64 ((rd_T44 l0 x10_1).f3), .string ((rd_T44 l0 x10_1).f4), .bool ((rd_T44 l0 x10_1).f5), .int .i64 ((rd_T44 l0 x10_1).f6), .int .i64 ((rd_T44 l0 x10_1).f7)] 44 (0, 0)) (by (with_reducible repeat (first | refine blk_drewN ?_ _ | refine blk_drew ?_ | refine blk_alloc ?_ _)); refine blk_put (cs := #[.bool ((rd_T44 l0 x10_1).f0), .string ((rd_T44 l0 x10_1).f1), .int .i64 ((rd_T44 l0 x10_1).f2), .int .i64 ((rd_T44 l0 x10_1).f3), .string ((rd_T44 l0 x10_1).f4), .bool ((rd_T44 l0 x10_1).f5), .int .i64 ((rd_T44 l0 x10_1).f6), .int .i64 0]) ?_ 7 _ rfl; (with_reducible repeat (first | refine blk_drewN ?_ _ | refine blk_drew ?_ | refine blk_alloc ?_ _)); refine blk_put (cs := #[.bool ((rd_T44 l0 x10_1).f0), .string ((rd_T44 l0 x10_1).f1), .int .i64 ((rd_T44 l0 x10_1).f2), .int .i64 ((rd_T44 l0 x10_1).f3), .string ((rd_T44 l0 x10_1).f4), .bool ((rd_T44 l0 x10_1).f5), .int .i64 0, .int .i64 0]) ?_ 6 _ rfl; (with_reducible repeat (first | refine blk_drewN ?_ _ | refine blk_drew ?_ | refine blk_alloc ?_ _)); refine blk_put (cs := #[.bool ((rd_T44 l0 x10_1).f0), .string ((rd_T44 l0 x10_1).f1), .int .i64 ((rd_T44 l0 x10_1).f2), .int .i64 ((rd_T44 l0 x10_1).f3), .string ((rd_T44 l0 x10_1).f4), .bool false, .int .i64 0, .int .i64 0]) ?_ 5 _ rfl; (with_reducible repeat (first | refine blk_drewN ?_ _ | refine blk_drew ?_ | refine blk_alloc ?_ _)); refine blk_put (cs := #[.bool ((rd_T44 l0 x10_1).f0), .string ((rd_T44 l0 x10_1).f1), .int .i64 ((rd_T44 l0 x10_1).f2), .int .i64 ((rd_T44 l0 x10_1).f3), .string (⟨#[]⟩ : ByteArray), .bool false, .int .i64 0, .int .i64 0]) ?_ 4 _ rfl; (with_reducible repeat (first | refine blk_drewN ?_ _ | refine blk_drew ?_ | refine blk_alloc ?_ _)); refine blk_put (cs := #[.bool ((rd_T44 l0 x10_1).f0), .string ((rd_T44 l0 x10_1).f1), .int .i64 ((rd_T44 l0 x10_1).f2), .int .i64 0, .string (⟨#[]⟩ : ByteArray), .bool false, .int .i64 0, .int .i64 0]) ?_ 3 _ rfl; (with_reducible repeat (first | refine blk_drewN ?_ _ | refine blk_drew ?_ | refine blk_alloc ?_ _)); refine blk_put (cs := #[.bool ((rd_T44 l0 x10_1).f0), .string ((rd_T44 l0 x10_1).f1), .int .i64 0, .int .i64 0, .string (⟨#[]⟩ : ByteArray), .bool false, .int .i64 0, .int .i64 0]) ?_ 2 _ rfl; (with_reducible repeat (first | refine blk_drewN ?_ _ | refine blk_drew ?_ | refine blk_alloc ?_ _)); refine blk_put (cs := #[.bool ((rd_T44 l0 x10_1).f0), .string (⟨#[]⟩ : ByteArray), .int .i64 0, .int .i64 0, .string (⟨#[]⟩ : ByteArray), .bool false, .int .i64 0, .int .i64 0]) ?_ 1 _ rfl; (with_reducible repeat (first | refine blk_drewN ?_ _ | refine blk_drew ?_ | refine blk_alloc ?_ _)); refine blk_put (cs := #[.bool false, .string (⟨#[]⟩ : ByteArray), .int .i64 0, .int .i64 0, .string (⟨#[]⟩ : ByteArray), .bool false, .int .i64 0, .int .i64 0]) ?_ 0 _ rfl; (with_reducible repeat (first | refine blk_drewN ?_ _ | refine blk_drew ?_ | refine blk_alloc ?_ _)); exact BK103.out) hb); have n1_ := Aside0.mk (below_step (by repeat (first | (with_reducible first | exact HB.out | apply below_alloc | apply pw_below_drewN | apply below_drew1 | refine below_set ?_ GE103.out) | exact HB.out)) hb); clear BK103; clear HB; have BK103 := n0_; have HB := n1_; clear n0_ n1_; (try clear hb); (try clear hb2); (try clear hk); (try clear hi)))
                go_roundg k1
                case measure => have := HK1.out; omega
                case rel => exact ⟨(wrap64 (x10_1 + 1)), (by first | rfl | (simp; done) | (simp [*]; done)), H', ⟨by have := HK1.out; omega⟩, ⟨by repeat (first | (with_reducible first | exact HB.out | apply below_alloc | apply pw_below_drewN | apply below_drew1 | refine below_set ?_ GE103.out) | exact HB.out)⟩⟩
              · replace c7 := Bool.eq_false_iff.mpr c7
                subst c7
                have H1 : (some false) = some r := by rw [if_neg (show ¬ (false = true) by decide)] at H; exact H
                clear H
                have H := H1
                clear H1
                obtain rfl := Option.some.inj H
                have p102 : 0 ≤ (x10_1 : Int) := of_decide_eq_true (by first | (with_reducible assumption) | assumption)
                have q102 : x10_1 < (l0.length : Int) := of_decide_eq_true (by first | (with_reducible assumption) | assumption)
                obtain ⟨ad102, e102, hx102_0, hx102_1, hx102_2, hx102_3, hx102_4, hx102_5, hx102_6, hx102_7⟩ := at_T44 HR0.out x10_1 p102 q102
                cases e102
                replace hx102_0 := (HB.out.cell (World.block_lt_of_cell? w _ hx102_0)).trans hx102_0
                replace hx102_1 := (HB.out.cell (World.block_lt_of_cell? w _ hx102_1)).trans hx102_1
                replace hx102_2 := (HB.out.cell (World.block_lt_of_cell? w _ hx102_2)).trans hx102_2
                replace hx102_3 := (HB.out.cell (World.block_lt_of_cell? w _ hx102_3)).trans hx102_3
                replace hx102_4 := (HB.out.cell (World.block_lt_of_cell? w _ hx102_4)).trans hx102_4
                replace hx102_5 := (HB.out.cell (World.block_lt_of_cell? w _ hx102_5)).trans hx102_5
                replace hx102_6 := (HB.out.cell (World.block_lt_of_cell? w _ hx102_6)).trans hx102_6
                replace hx102_7 := (HB.out.cell (World.block_lt_of_cell? w _ hx102_7)).trans hx102_7
                replace p102 := eq_true p102
                replace q102 := eq_true q102
                go_wp2_with (first | ((with_reducible refine gate_dst (N := 4) rfl ?_); refine box_event ?hg (N := 4) ?hd (cs := #[.bool false, .string (⟨#[]⟩ : ByteArray), .int .i64 0, .int .i64 0, .string (⟨#[]⟩ : ByteArray), .bool false, .int .i64 0, .int .i64 0]) (t := 44) ?hr ?_; (case hd => rfl); (case hg => rfl); (case hr => first | (go_simp; done) | (go_simp; rfl)); intro gb103 hg w11 hbox hb; have n0_ := Aside0.mk (below_step (by repeat (first | (with_reducible first | exact HB.out | apply below_alloc | apply pw_below_drewN | apply below_drew1) | exact HB.out)) hb); have n1_ := Aside0.mk (hbox); have n2_ := Aside0.mk ((by rw [hg]; exact (below_size (by repeat (first | (with_reducible first | exact HB.out | apply below_alloc | apply pw_below_drewN | apply below_drew1) | exact HB.out))) : w.heap.size ≤ gb103)); have n3_ := Aside0.mk ((by rw [hg]; exact (below_size (by repeat (first | (with_reducible first | exact HB.out | apply below_alloc | apply pw_below_drewN | apply below_drew1) | exact HB.out))) : w.heap.size ≤ gb103)); clear HB; have HB := n0_; have BK103 := n1_; have GW103 := n2_; have GE103 := n3_; clear n0_ n1_ n2_ n3_; clear hb hbox hg; have hcz12_0 : w11.cell? ⟨gb103, 0, none⟩ = some (.bool false) := (blk_cell BK103.out 0).trans rfl; have hcz12_1 : w11.cell? ⟨gb103, 1, none⟩ = some (.string (⟨#[]⟩ : ByteArray)) := (blk_cell BK103.out 1).trans rfl; have hcz12_2 : w11.cell? ⟨gb103, 2, none⟩ = some (.int .i64 0) := (blk_cell BK103.out 2).trans rfl; have hcz12_3 : w11.cell? ⟨gb103, 3, none⟩ = some (.int .i64 0) := (blk_cell BK103.out 3).trans rfl; have hcz12_4 : w11.cell? ⟨gb103, 4, none⟩ = some (.string (⟨#[]⟩ : ByteArray)) := (blk_cell BK103.out 4).trans rfl; have hcz12_5 : w11.cell? ⟨gb103, 5, none⟩ = some (.bool false) := (blk_cell BK103.out 5).trans rfl; have hcz12_6 : w11.cell? ⟨gb103, 6, none⟩ = some (.int .i64 0) := (blk_cell BK103.out 6).trans rfl; have hcz12_7 : w11.cell? ⟨gb103, 7, none⟩ = some (.int .i64 0) := (blk_cell BK103.out 7).trans rfl; have hfz12_0 := blk_frozen BK103.out 0; have hfz12_1 := blk_frozen BK103.out 1; have hfz12_2 := blk_frozen BK103.out 2; have hfz12_3 := blk_frozen BK103.out 3; have hfz12_4 := blk_frozen BK103.out 4; have hfz12_5 := blk_frozen BK103.out 5; have hfz12_6 := blk_frozen BK103.out 6; have hfz12_7 := blk_frozen BK103.out 7) | ((with_reducible refine gate_callee (f := 47) rfl ?_); refine goesL_ (some 15) rfl rfl Try.func47 (by kernel_rfl) rfl #[.agg #[.bool ((rd_T44 l0 x10_1).f0), .string ((rd_T44 l0 x10_1).f1), .int .i64 ((rd_T44 l0 x10_1).f2), .int .i64 ((rd_T44 l0 x10_1).f3), .string ((rd_T44 l0 x10_1).f4), .bool ((rd_T44 l0 x10_1).f5), .int .i64 ((rd_T44 l0 x10_1).f6), .int .i64 ((rd_T44 l0 x10_1).f7)]] rfl (by (try simp only [List.map_toArray, List.map_cons, List.map_nil]); first | done | rfl | (simp only [List.length_drop, List.length_take]; rfl)) ?_; (with_reducible refine (laws_zzFits6.calls ((rd_T44 l0 x10_1).f0) ((rd_T44 l0 x10_1).f1) ((rd_T44 l0 x10_1).f2) ((rd_T44 l0 x10_1).f3) ((rd_T44 l0 x10_1).f4) ((rd_T44 l0 x10_1).f5) ((rd_T44 l0 x10_1).f6) ((rd_T44 l0 x10_1).f7) false _ A6.out).mono ?_); rintro e w13 ⟨rfl, hb⟩; refine ⟨_, rfl, ?_⟩; have n0_ := Aside0.mk (blk_below (g := gb103) (o := .cells #[.bool ((rd_T44 l0 x10_1).f0), .string ((rd_T44 l0 x10_1).f1), .int .i64 ((rd_T44 l0 x10_1).f2), .int .i64 ((rd_T44 l0 x10_1).f3), .string ((rd_T44 l0 x10_1).f4), .bool ((rd_T44 l0 x10_1).f5), .int .i64 ((rd_T44 l0 x10_1).f6), .int .i64 ((rd_T44 l0 x10_1).f7)] 44 (0, 0)) (by (with_reducible repeat (first | refine blk_drewN ?_ _ | refine blk_drew ?_ | refine blk_alloc ?_ _)); refine blk_put (cs := #[.bool ((rd_T44 l0 x10_1).f0), .string ((rd_T44 l0 x10_1).f1), .int .i64 ((rd_T44 l0 x10_1).f2), .int .i64 ((rd_T44 l0 x10_1).f3), .string ((rd_T44 l0 x10_1).f4), .bool ((rd_T44 l0 x10_1).f5), .int .i64 ((rd_T44 l0 x10_1).f6), .int .i64 0]) ?_ 7 _ rfl; (with_reducible repeat (first | refine blk_drewN ?_ _ | refine blk_drew ?_ | refine blk_alloc ?_ _)); refine blk_put (cs := #[.bool ((rd_T44 l0 x10_1).f0), .string ((rd_T44 l0 x10_1).f1), .int .i64 ((rd_T44 l0 x10_1).f2), .int .i64 ((rd_T44 l0 x10_1).f3), .string ((rd_T44 l0 x10_1).f4), .bool ((rd_T44 l0 x10_1).f5), .int .i64 0, .int .i64 0]) ?_ 6 _ rfl; (with_reducible repeat (first | refine blk_drewN ?_ _ | refine blk_drew ?_ | refine blk_alloc ?_ _)); refine blk_put (cs := #[.bool ((rd_T44 l0 x10_1).f0), .string ((rd_T44 l0 x10_1).f1), .int .i64 ((rd_T44 l0 x10_1).f2), .int .i64 ((rd_T44 l0 x10_1).f3), .string ((rd_T44 l0 x10_1).f4), .bool false, .int .i64 0, .int .i64 0]) ?_ 5 _ rfl; (with_reducible repeat (first | refine blk_drewN ?_ _ | refine blk_drew ?_ | refine blk_alloc ?_ _)); refine blk_put (cs := #[.bool ((rd_T44 l0 x10_1).f0), .string ((rd_T44 l0 x10_1).f1), .int .i64 ((rd_T44 l0 x10_1).f2), .int .i64 ((rd_T44 l0 x10_1).f3), .string (⟨#[]⟩ : ByteArray), .bool false, .int .i64 0, .int .i64 0]) ?_ 4 _ rfl; (with_reducible repeat (first | refine blk_drewN ?_ _ | refine blk_drew ?_ | refine blk_alloc ?_ _)); refine blk_put (cs := #[.bool ((rd_T44 l0 x10_1).f0), .string ((rd_T44 l0 x10_1).f1), .int .i64 ((rd_T44 l0 x10_1).f2), .int .i64 0, .string (⟨#[]⟩ : ByteArray), .bool false, .int .i64 0, .int .i64 0]) ?_ 3 _ rfl; (with_reducible repeat (first | refine blk_drewN ?_ _ | refine blk_drew ?_ | refine blk_alloc ?_ _)); refine blk_put (cs := #[.bool ((rd_T44 l0 x10_1).f0), .string ((rd_T44 l0 x10_1).f1), .int .i64 0, .int .i64 0, .string (⟨#[]⟩ : ByteArray), .bool false, .int .i64 0, .int .i64 0]) ?_ 2 _ rfl; (with_reducible repeat (first | refine blk_drewN ?_ _ | refine blk_drew ?_ | refine blk_alloc ?_ _)); refine blk_put (cs := #[.bool ((rd_T44 l0 x10_1).f0), .string (⟨#[]⟩ : ByteArray), .int .i64 0, .int .i64 0, .string (⟨#[]⟩ : ByteArray), .bool false, .int .i64 0, .int .i64 0]) ?_ 1 _ rfl; (with_reducible repeat (first | refine blk_drewN ?_ _ | refine blk_drew ?_ | refine blk_alloc ?_ _)); refine blk_put (cs := #[.bool false, .string (⟨#[]⟩ : ByteArray), .int .i64 0, .int .i64 0, .string (⟨#[]⟩ : ByteArray), .bool false, .int .i64 0, .int .i64 0]) ?_ 0 _ rfl; (with_reducible repeat (first | refine blk_drewN ?_ _ | refine blk_drew ?_ | refine blk_alloc ?_ _)); exact BK103.out) hb); have n1_ := Aside0.mk (below_step (by repeat (first | (with_reducible first | exact HB.out | apply below_alloc | apply pw_below_drewN | apply below_drew1 | refine below_set ?_ GE103.out) | exact HB.out)) hb); clear BK103; clear HB; have BK103 := n0_; have HB := n1_; clear n0_ n1_; (try clear hb); (try clear hb2); (try clear hk); (try clear hi)))
                go_ret
                exact ⟨by first | rfl | (simp [errW_none, errW_some] <;> rfl) | (simp [*, errW_none, errW_some] <;> rfl), by repeat (first | (with_reducible first | exact HB.out | apply below_alloc | apply pw_below_drewN | apply below_drew1 | refine below_set ?_ GE103.out) | exact HB.out)⟩
            · rw [if_neg c5] at H
              exact absurd H (by simp)
          · rw [if_neg c4] at H
            exact absurd H (by simp)
        · rw [if_neg c3] at H
          have c3b0 : decide (x10_1 < (l0.length : Int)) = false := decide_eq_false c3
          clear c3
          obtain rfl := Option.some.inj H
          go_wp2
          go_ret
          exact ⟨by first | rfl | (simp [errW_none, errW_some] <;> rfl) | (simp [*, errW_none, errW_some] <;> rfl), by repeat (first | (with_reducible first | exact HB.out | apply below_alloc | apply pw_below_drewN | apply below_drew1) | exact HB.out)⟩

/-! ### timers_InEventTime: function 48 -/
def timers_InEventTime.f (a0 : ByteArray) : Option (ByteArray) := some a0
set_option maxHeartbeats 8000000 in
set_option maxRecDepth 100000 in
theorem timers_InEventTime.calls (a0 : ByteArray) (r : ByteArray) (w : World) (h : timers_InEventTime.f a0 = some r) :
    Calls Try.prog 48 #[.string a0] w fun e w' => e = .returned (.agg #[.string r]) ∧ Below w.heap.size w w' := by
  have hu115 := Try.underlying115
  have HB := Aside0.mk (Below.refl w.heap.size w)
  have H : (some a0) = some r := h
  clear h
  obtain rfl := Option.some.inj H
  go_enter Try.func48, Try.ntmps48
  go_wp2_with (first | ((with_reducible refine gate_dst (N := 2) rfl ?_); refine box_event ?hg (N := 2) ?hd (cs := #[.string (⟨#[]⟩ : ByteArray)]) (t := 115) ?hr ?_; (case hd => rfl); (case hg => rfl); (case hr => first | (go_simp; done) | (go_simp; rfl)); intro gb105 hg w2 hbox hb; have n0_ := Aside0.mk (below_step (by repeat (first | (with_reducible first | exact HB.out | apply below_alloc | apply pw_below_drewN | apply below_drew1) | exact HB.out)) hb); have n1_ := Aside0.mk (hbox); have n2_ := Aside0.mk ((by rw [hg]; exact (below_size (by repeat (first | (with_reducible first | exact HB.out | apply below_alloc | apply pw_below_drewN | apply below_drew1) | exact HB.out))) : w.heap.size ≤ gb105)); have n3_ := Aside0.mk ((by rw [hg]; exact (below_size (by repeat (first | (with_reducible first | exact HB.out | apply below_alloc | apply pw_below_drewN | apply below_drew1) | exact HB.out))) : w.heap.size ≤ gb105)); clear HB; have HB := n0_; have BK105 := n1_; have GW105 := n2_; have GE105 := n3_; clear n0_ n1_ n2_ n3_; clear hb hbox hg; have hcz3_0 : w2.cell? ⟨gb105, 0, none⟩ = some (.string (⟨#[]⟩ : ByteArray)) := (blk_cell BK105.out 0).trans rfl; have hfz3_0 := blk_frozen BK105.out 0))
  refine bodyPost_ret (results_cell_row rfl _ _ gb105 115 #[.string a0] (0, 0) _ rfl (by (with_reducible repeat (first | refine blk_drewN ?_ _ | refine blk_drew ?_ | refine blk_alloc ?_ _)); refine blk_put (cs := #[.string (⟨#[]⟩ : ByteArray)]) ?_ 0 _ rfl; (with_reducible repeat (first | refine blk_drewN ?_ _ | refine blk_drew ?_ | refine blk_alloc ?_ _)); exact BK105.out) Try.underlying115 rfl (by kernel_rfl)) rfl ?_
  exact ⟨by first | rfl | (simp [errW_none, errW_some] <;> rfl) | (simp [*, errW_none, errW_some] <;> rfl), by repeat (first | (with_reducible first | exact HB.out | apply below_alloc | apply pw_below_drewN | apply below_drew1 | refine below_set ?_ GE105.out) | exact HB.out)⟩

/-! ### timers_InProcessingTime: function 49 -/
def timers_InProcessingTime.f (a0 : ByteArray) : Option (ByteArray) := some a0
set_option maxHeartbeats 8000000 in
set_option maxRecDepth 100000 in
theorem timers_InProcessingTime.calls (a0 : ByteArray) (r : ByteArray) (w : World) (h : timers_InProcessingTime.f a0 = some r) :
    Calls Try.prog 49 #[.string a0] w fun e w' => e = .returned (.agg #[.string r]) ∧ Below w.heap.size w w' := by
  have hu117 := Try.underlying117
  have HB := Aside0.mk (Below.refl w.heap.size w)
  have H : (some a0) = some r := h
  clear h
  obtain rfl := Option.some.inj H
  go_enter Try.func49, Try.ntmps49
  go_wp2_with (first | ((with_reducible refine gate_dst (N := 2) rfl ?_); refine box_event ?hg (N := 2) ?hd (cs := #[.string (⟨#[]⟩ : ByteArray)]) (t := 117) ?hr ?_; (case hd => rfl); (case hg => rfl); (case hr => first | (go_simp; done) | (go_simp; rfl)); intro gb106 hg w2 hbox hb; have n0_ := Aside0.mk (below_step (by repeat (first | (with_reducible first | exact HB.out | apply below_alloc | apply pw_below_drewN | apply below_drew1) | exact HB.out)) hb); have n1_ := Aside0.mk (hbox); have n2_ := Aside0.mk ((by rw [hg]; exact (below_size (by repeat (first | (with_reducible first | exact HB.out | apply below_alloc | apply pw_below_drewN | apply below_drew1) | exact HB.out))) : w.heap.size ≤ gb106)); have n3_ := Aside0.mk ((by rw [hg]; exact (below_size (by repeat (first | (with_reducible first | exact HB.out | apply below_alloc | apply pw_below_drewN | apply below_drew1) | exact HB.out))) : w.heap.size ≤ gb106)); clear HB; have HB := n0_; have BK106 := n1_; have GW106 := n2_; have GE106 := n3_; clear n0_ n1_ n2_ n3_; clear hb hbox hg; have hcz3_0 : w2.cell? ⟨gb106, 0, none⟩ = some (.string (⟨#[]⟩ : ByteArray)) := (blk_cell BK106.out 0).trans rfl; have hfz3_0 := blk_frozen BK106.out 0))
  refine bodyPost_ret (results_cell_row rfl _ _ gb106 117 #[.string a0] (0, 0) _ rfl (by (with_reducible repeat (first | refine blk_drewN ?_ _ | refine blk_drew ?_ | refine blk_alloc ?_ _)); refine blk_put (cs := #[.string (⟨#[]⟩ : ByteArray)]) ?_ 0 _ rfl; (with_reducible repeat (first | refine blk_drewN ?_ _ | refine blk_drew ?_ | refine blk_alloc ?_ _)); exact BK106.out) Try.underlying117 rfl (by kernel_rfl)) rfl ?_
  exact ⟨by first | rfl | (simp [errW_none, errW_some] <;> rfl) | (simp [*, errW_none, errW_some] <;> rfl), by repeat (first | (with_reducible first | exact HB.out | apply below_alloc | apply pw_below_drewN | apply below_drew1 | refine below_set ?_ GE106.out) | exact HB.out)⟩

-- NOT PRINTED: function 50 (timers_ProcessingTime_Clear)

-- NOT PRINTED: function 51 (timers_EventTime_Clear)

-- NOT PRINTED: function 52 (timers_ProcessingTime_ClearTag)

-- NOT PRINTED: function 53 (timers_EventTime_ClearTag)

/-! ### mtime_Min: function 130 -/
def mtime_Min.f (a0 : Int) (a1 : Int) : Option (Int) := if a0 < a1 then (some a0) else (some a1)
set_option maxHeartbeats 8000000 in
set_option maxRecDepth 100000 in
theorem mtime_Min.calls (a0 : Int) (a1 : Int) (r : Int) (w : World) (h : mtime_Min.f a0 a1 = some r) :
    Calls Try.prog 130 #[.int .i64 a0, .int .i64 a1] w fun e w' => e = .returned (.int .i64 r) ∧ Drawn0 w w' := by
  have H : (if a0 < a1 then (some a0) else (some a1)) = some r := h
  clear h
  by_cases c3 : a0 < a1
  · rw [if_pos c3] at H
    have c3b0 : decide (a0 < a1) = true := decide_eq_true c3
    clear c3
    obtain rfl := Option.some.inj H
    go_enter Try.func130, Try.ntmps130
    go_wp2
    go_ret
    exact ⟨by first | rfl | (simp; done) | (simp [*]; done), by repeat (first | exact Drawn0.refl _ | apply Drawn0.step)⟩
  · rw [if_neg c3] at H
    have c3b0 : decide (a0 < a1) = false := decide_eq_false c3
    clear c3
    obtain rfl := Option.some.inj H
    go_enter Try.func130, Try.ntmps130
    go_wp2
    go_ret
    exact ⟨by first | rfl | (simp; done) | (simp [*]; done), by repeat (first | exact Drawn0.refl _ | apply Drawn0.step)⟩

/-! ### mtime_Max: function 131 -/
def mtime_Max.f (a0 : Int) (a1 : Int) : Option (Int) := if a0 < a1 then (some a1) else (some a0)
set_option maxHeartbeats 8000000 in
set_option maxRecDepth 100000 in
theorem mtime_Max.calls (a0 : Int) (a1 : Int) (r : Int) (w : World) (h : mtime_Max.f a0 a1 = some r) :
    Calls Try.prog 131 #[.int .i64 a0, .int .i64 a1] w fun e w' => e = .returned (.int .i64 r) ∧ Drawn0 w w' := by
  have H : (if a0 < a1 then (some a1) else (some a0)) = some r := h
  clear h
  by_cases c3 : a0 < a1
  · rw [if_pos c3] at H
    have c3b0 : decide (a0 < a1) = true := decide_eq_true c3
    clear c3
    obtain rfl := Option.some.inj H
    go_enter Try.func131, Try.ntmps131
    go_wp2
    go_ret
    exact ⟨by first | rfl | (simp; done) | (simp [*]; done), by repeat (first | exact Drawn0.refl _ | apply Drawn0.step)⟩
  · rw [if_neg c3] at H
    have c3b0 : decide (a0 < a1) = false := decide_eq_false c3
    clear c3
    obtain rfl := Option.some.inj H
    go_enter Try.func131, Try.ntmps131
    go_wp2
    go_ret
    exact ⟨by first | rfl | (simp; done) | (simp [*]; done), by repeat (first | exact Drawn0.refl _ | apply Drawn0.step)⟩

/-! ### mtime_Normalize: function 124 -/
def mtime_Normalize.f (a0 : Int) : Option (Int) := (mtime_Max.f a0 (-9223372036854775)).bind fun t107 => ((mtime_Min.f t107 9223372036854775).bind fun t108 => (some t108))
set_option maxHeartbeats 8000000 in
set_option maxRecDepth 100000 in
theorem mtime_Normalize.calls (a0 : Int) (r : Int) (w : World) (h : mtime_Normalize.f a0 = some r) :
    Calls Try.prog 124 #[.int .i64 a0] w fun e w' => e = .returned (.int .i64 r) ∧ Drawn0 w w' := by
  have H : ((mtime_Max.f a0 (-9223372036854775)).bind fun t107 => ((mtime_Min.f t107 9223372036854775).bind fun t108 => (some t108))) = some r := h
  clear h
  replace H := Option.bind_eq_some_iff.mp H
  obtain ⟨t107, A20, H⟩ := H
  replace H : ((mtime_Min.f t107 9223372036854775).bind fun t108 => (some t108)) = some r := H
  have A2 := Aside0.mk A20
  clear A20
  replace H := Option.bind_eq_some_iff.mp H
  obtain ⟨t108, A30, H⟩ := H
  replace H : (some t108) = some r := H
  have A3 := Aside0.mk A30
  clear A30
  obtain rfl := Option.some.inj H
  go_enter Try.func124, Try.ntmps124
  go_wp2_with (first | ((with_reducible refine gate_callee (f := 131) rfl ?_); refine goesL_ (some 4) rfl rfl Try.func131 (by kernel_rfl) rfl #[.int .i64 a0, .int .i64 (-9223372036854775)] rfl (by (try simp only [List.map_toArray, List.map_cons, List.map_nil]); first | done | rfl | (simp only [List.length_drop, List.length_take]; rfl)) ?_; (with_reducible refine (mtime_Max.calls a0 (-9223372036854775) t107 _ A2.out).mono ?_); rintro e w' ⟨rfl, ⟨nd, rfl⟩⟩; refine ⟨_, rfl, ?_⟩) | ((with_reducible refine gate_callee (f := 130) rfl ?_); refine goesL_ (some 5) rfl rfl Try.func130 (by kernel_rfl) rfl #[.int .i64 t107, .int .i64 9223372036854775] rfl (by (try simp only [List.map_toArray, List.map_cons, List.map_nil]); first | done | rfl | (simp only [List.length_drop, List.length_take]; rfl)) ?_; (with_reducible refine (mtime_Min.calls t107 9223372036854775 t108 _ A3.out).mono ?_); rintro e w' ⟨rfl, ⟨nd, rfl⟩⟩; refine ⟨_, rfl, ?_⟩))
  go_ret
  exact ⟨by first | rfl | (simp; done) | (simp [*]; done), by repeat (first | exact Drawn0.refl _ | apply Drawn0.step)⟩

-- NOT PRINTED: function 90 (timers_ProcessingTime_Set)

-- NOT PRINTED: function 91 (timers_WithTag)

-- NOT PRINTED: function 92 (timers_WithOutputTimestamp)

-- NOT PRINTED: function 93 (timers_EventTime_Set)

-- NOT PRINTED: function 94 (timers_WithNoOutputTimestamp)

-- NOT PRINTED: function 54 (impl_timerSet)

-- NOT PRINTED: function 21 (impl_TimerRun)

-- NOT PRINTED: function 20 (laws_timerAwake)

/-! ### spec_TimerCut: function 55 -/
def spec_TimerCut.f (a0 : Int) : Option (Int) := some (mn (mx a0 (-9223372036854775)) 9223372036854775)
set_option maxHeartbeats 8000000 in
set_option maxRecDepth 100000 in
theorem spec_TimerCut.calls (a0 : Int) (r : Int) (w : World) (h : spec_TimerCut.f a0 = some r) :
    Calls Try.prog 55 #[.int .i64 a0] w fun e w' => e = .returned (.int .i64 r) ∧ Below w.heap.size w w' := by
  have HB := Aside0.mk (Below.refl w.heap.size w)
  have H : (some (mn (mx a0 (-9223372036854775)) 9223372036854775)) = some r := h
  clear h
  obtain ⟨ji2, hji2⟩ : ∃ j_ : Int, (mx a0 (-9223372036854775)) = j_ := ⟨_, rfl⟩
  replace H : (some (mn (ji2) 9223372036854775)) = some r := by first | (rw [hji2] at H; exact H) | (simp only [hji2] at H ⊢; exact H)
  have hji2_ : (if a0 < (-9223372036854775) then (-9223372036854775) else a0) = ji2 := hji2
  obtain ⟨ji3, hji3⟩ : ∃ j_ : Int, (mn (ji2) 9223372036854775) = j_ := ⟨_, rfl⟩
  replace H : (some ji3) = some r := by first | (rw [hji3] at H; exact H) | (simp only [hji3] at H ⊢; exact H)
  have hji3_ : (if 9223372036854775 < (ji2) then 9223372036854775 else (ji2)) = ji3 := hji3
  obtain rfl := Option.some.inj H
  go_enter Try.func55, Try.ntmps55
  go_wp2
  go_ret
  exact ⟨by first | rfl | (simp [errW_none, errW_some] <;> rfl) | (simp only [← hji2, ← hji3]; first | rfl | (simp [errW_none, errW_some] <;> rfl)) | (simp [*, errW_none, errW_some] <;> rfl), by repeat (first | (with_reducible first | exact HB.out | apply below_alloc | apply pw_below_drewN | apply below_drew1) | exact HB.out)⟩

end Go.Proofs.Ytoigekmdicepnaa.PFnTimerRun
