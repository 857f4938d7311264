-- PRINTED BY print.sh 35421559b90ae4d0a3588c463048766b98c2df88dd9212a6774a882060cdf62d: not written by this session
import Derived.Test.YtoigekmdicepnaaPFnMapStatex0
namespace Go.Proofs.Ytoigekmdicepnaa.PFnMapState
open Go.RowKit Go.Proofs.YtoigekmdicepnaaW.PrintWords Go.Proofs.YtoigekmdicepnaaW.PrintLast Go.Proofs.YtoigekmdicepnaaW.PrintMore
attribute [local go_sem] max2_int min2_int max_two min_two max_three min_three max_four min_four   -- for this text's walks alone
set_option linter.unusedVariables false
set_option linter.unusedSimpArgs false

/-! ### laws_zzFits8: function 42 -/
def laws_zzFits8.f (a0_0 : Int) (a0_1 : ByteArray) (a0_2 : Int) (a0_3 : Int) (a0_4 : Int) : Option (Bool) := if (a0_1.size : Int) > 2147483647 then (some false) else (some true)
set_option maxHeartbeats 8000000 in
set_option maxRecDepth 100000 in
theorem laws_zzFits8.calls (a0_0 : Int) (a0_1 : ByteArray) (a0_2 : Int) (a0_3 : Int) (a0_4 : Int) (r : Bool) (w : World) (h : laws_zzFits8.f a0_0 a0_1 a0_2 a0_3 a0_4 = some r) :
    Calls Try.prog 42 #[.agg #[.int .i64 a0_0, .string a0_1, .int .i64 a0_2, .int .i64 a0_3, .int .i64 a0_4]] w fun e w' => e = .returned (.bool r) ∧ Below w.heap.size w w' := by
  have hu26 := Try.underlying26
  have HB := Aside0.mk (Below.refl w.heap.size w)
  have H : (if (a0_1.size : Int) > 2147483647 then (some false) else (some true)) = some r := h
  clear h
  by_cases c2 : (a0_1.size : Int) > 2147483647
  · rw [if_pos c2] at H
    have c2b0 : decide (2147483647 < (a0_1.size : Int)) = true := decide_eq_true c2
    have c2b1 : decide (2147483647 < a0_1.size) = true := decide_eq_true (by omega)
    clear c2
    obtain rfl := Option.some.inj H
    go_enter Try.func42, Try.ntmps42
    go_wp2_with (first | ((with_reducible refine gate_dst (N := 1) rfl ?_); refine box_event ?hg (N := 1) ?hd (cs := #[.int .i64 a0_0, .string a0_1, .int .i64 a0_2, .int .i64 a0_3, .int .i64 a0_4]) (t := 26) ?hr ?_; (case hd => rfl); (case hg => rfl); (case hr => first | (go_simp; done) | (go_simp; rfl)); intro gb101 hg w3 hbox hb; have n0_ := Aside0.mk (below_step (by repeat (first | (with_reducible first | exact HB.out | apply below_alloc | apply pw_below_drewN | apply below_drew1) | exact HB.out)) hb); have n1_ := Aside0.mk (hbox); have n2_ := Aside0.mk ((by rw [hg]; exact (below_size (by repeat (first | (with_reducible first | exact HB.out | apply below_alloc | apply pw_below_drewN | apply below_drew1) | exact HB.out))) : w.heap.size ≤ gb101)); have n3_ := Aside0.mk ((by rw [hg]; exact (below_size (by repeat (first | (with_reducible first | exact HB.out | apply below_alloc | apply pw_below_drewN | apply below_drew1) | exact HB.out))) : w.heap.size ≤ gb101)); clear HB; have HB := n0_; have BK101 := n1_; have GW101 := n2_; have GE101 := n3_; clear n0_ n1_ n2_ n3_; clear hb hbox hg; have hcz4_0 : w3.cell? ⟨gb101, 0, none⟩ = some (.int .i64 a0_0) := (blk_cell BK101.out 0).trans rfl; have hcz4_1 : w3.cell? ⟨gb101, 1, none⟩ = some (.string a0_1) := (blk_cell BK101.out 1).trans rfl; have hcz4_2 : w3.cell? ⟨gb101, 2, none⟩ = some (.int .i64 a0_2) := (blk_cell BK101.out 2).trans rfl; have hcz4_3 : w3.cell? ⟨gb101, 3, none⟩ = some (.int .i64 a0_3) := (blk_cell BK101.out 3).trans rfl; have hcz4_4 : w3.cell? ⟨gb101, 4, none⟩ = some (.int .i64 a0_4) := (blk_cell BK101.out 4).trans rfl; have hfz4_0 := blk_frozen BK101.out 0; have hfz4_1 := blk_frozen BK101.out 1; have hfz4_2 := blk_frozen BK101.out 2; have hfz4_3 := blk_frozen BK101.out 3; have hfz4_4 := blk_frozen BK101.out 4))
    go_ret
    exact ⟨by first | rfl | (simp [errW_none, errW_some] <;> rfl) | (simp [*, errW_none, errW_some] <;> rfl), by repeat (first | (with_reducible first | exact HB.out | apply below_alloc | apply pw_below_drewN | apply below_drew1 | refine below_set ?_ GE101.out) | exact HB.out)⟩
  · rw [if_neg c2] at H
    have c2b0 : decide (2147483647 < (a0_1.size : Int)) = false := decide_eq_false c2
    have c2b1 : decide (2147483647 < a0_1.size) = false := decide_eq_false (by omega)
    clear c2
    obtain rfl := Option.some.inj H
    go_enter Try.func42, Try.ntmps42
    go_wp2_with (first | ((with_reducible refine gate_dst (N := 1) rfl ?_); refine box_event ?hg (N := 1) ?hd (cs := #[.int .i64 a0_0, .string a0_1, .int .i64 a0_2, .int .i64 a0_3, .int .i64 a0_4]) (t := 26) ?hr ?_; (case hd => rfl); (case hg => rfl); (case hr => first | (go_simp; done) | (go_simp; rfl)); intro gb101 hg w5 hbox hb; have n0_ := Aside0.mk (below_step (by repeat (first | (with_reducible first | exact HB.out | apply below_alloc | apply pw_below_drewN | apply below_drew1) | exact HB.out)) hb); have n1_ := Aside0.mk (hbox); have n2_ := Aside0.mk ((by rw [hg]; exact (below_size (by repeat (first | (with_reducible first | exact HB.out | apply below_alloc | apply pw_below_drewN | apply below_drew1) | exact HB.out))) : w.heap.size ≤ gb101)); have n3_ := Aside0.mk ((by rw [hg]; exact (below_size (by repeat (first | (with_reducible first | exact HB.out | apply below_alloc | apply pw_below_drewN | apply below_drew1) | exact HB.out))) : w.heap.size ≤ gb101)); clear HB; have HB := n0_; have BK101 := n1_; have GW101 := n2_; have GE101 := n3_; clear n0_ n1_ n2_ n3_; clear hb hbox hg; have hcz6_0 : w5.cell? ⟨gb101, 0, none⟩ = some (.int .i64 a0_0) := (blk_cell BK101.out 0).trans rfl; have hcz6_1 : w5.cell? ⟨gb101, 1, none⟩ = some (.string a0_1) := (blk_cell BK101.out 1).trans rfl; have hcz6_2 : w5.cell? ⟨gb101, 2, none⟩ = some (.int .i64 a0_2) := (blk_cell BK101.out 2).trans rfl; have hcz6_3 : w5.cell? ⟨gb101, 3, none⟩ = some (.int .i64 a0_3) := (blk_cell BK101.out 3).trans rfl; have hcz6_4 : w5.cell? ⟨gb101, 4, none⟩ = some (.int .i64 a0_4) := (blk_cell BK101.out 4).trans rfl; have hfz6_0 := blk_frozen BK101.out 0; have hfz6_1 := blk_frozen BK101.out 1; have hfz6_2 := blk_frozen BK101.out 2; have hfz6_3 := blk_frozen BK101.out 3; have hfz6_4 := blk_frozen BK101.out 4))
    go_ret
    exact ⟨by first | rfl | (simp [errW_none, errW_some] <;> rfl) | (simp [*, errW_none, errW_some] <;> rfl), by repeat (first | (with_reducible first | exact HB.out | apply below_alloc | apply pw_below_drewN | apply below_drew1 | refine below_set ?_ GE101.out) | exact HB.out)⟩

/-! ### laws_zzFits7: function 11 -/
def laws_zzFits7.l0 : Nat → List (S26) → Int → Int → Option (Bool)
  | 0, _, _, _ => none
  | k + 1, x8, x9, x10 => if x10 < x9 then (if 0 ≤ x10 then (if x10 < (x8.length : Int) then ((laws_zzFits8.f ((rd_T26 x8 x10).f0) ((rd_T26 x8 x10).f1) ((rd_T26 x8 x10).f2) ((rd_T26 x8 x10).f3) ((rd_T26 x8 x10).f4)).bind fun t104 => (if t104 = true then (laws_zzFits7.l0 k x8 x9 (wrap64 (x10 + 1))) else (some false))) else (none)) else (none)) else (some true)
def laws_zzFits7.f (k : Nat) (l0 : List (S26)) : Option (Bool) := if (l0.length : Int) > 2147483647 then (some false) else (laws_zzFits7.l0 k l0 (l0.length : Int) 0)
theorem laws_zzFits7.mono_l : ∀ k, (∀ y0 y1 y2, LeO (laws_zzFits7.l0 k y0 y1 y2) (laws_zzFits7.l0 (k + 1) y0 y1 y2))
  | 0 => fun _ _ _ r h => by simp [laws_zzFits7.l0] at h
  | k + 1 => by
    have ih0 := laws_zzFits7.mono_l k
    · intro y0 y1 y2
      unfold laws_zzFits7.l0
      repeat' first
      | (with_reducible exact ih0 _ _ _)
      | (with_reducible exact LeO.refl _)
      | (with_reducible exact LeO.none _)
      | (with_reducible refine LeO.ite ?_ ?_)
      | (with_reducible refine LeO.bind ?_ (fun _ => ?_))
      | exact ih0 _ _ _
      | exact LeO.none _
      | refine LeO.ite ?_ ?_
      | refine LeO.bind ?_ (fun _ => ?_)
theorem laws_zzFits7.mono : ∀ a0 k, LeO (laws_zzFits7.f k a0) (laws_zzFits7.f (k + 1) a0) := by
  intro a0 k
  have ih0 := laws_zzFits7.mono_l k
  unfold laws_zzFits7.f
  repeat' first
      | (with_reducible exact ih0 _ _ _)
      | (with_reducible exact LeO.refl _)
      | (with_reducible exact LeO.none _)
      | (with_reducible refine LeO.ite ?_ ?_)
      | (with_reducible refine LeO.bind ?_ (fun _ => ?_))
      | exact ih0 _ _ _
      | exact LeO.none _
      | refine LeO.ite ?_ ?_
      | refine LeO.bind ?_ (fun _ => ?_)
set_option maxHeartbeats 8000000 in
set_option maxRecDepth 100000 in
theorem laws_zzFits7.calls (k : Nat) (A0 : Option Addr) (c0 : Nat) (l0 : List (S26)) (r : Bool) (w : World) (hr0 : Kd.C k26 w A0 l0.length l0) (hc0 : l0.length ≤ c0) (h : laws_zzFits7.f k l0 = some r) :
    Calls Try.prog 11 #[.slice A0 l0.length c0] w fun e w' => e = .returned (.bool r) ∧ Below w.heap.size w w' := by
  have hu26 := Try.underlying26
  have HR0 := Aside0.mk hr0
  have HC0 := Aside0.mk hc0
  clear hr0 hc0
  have HB := Aside0.mk (Below.refl w.heap.size w)
  have H : (if (l0.length : Int) > 2147483647 then (some false) else (laws_zzFits7.l0 k l0 (l0.length : Int) 0)) = some r := h
  clear h
  by_cases c2 : (l0.length : Int) > 2147483647
  · rw [if_pos c2] at H
    have c2b0 : decide (2147483647 < (l0.length : Int)) = true := decide_eq_true c2
    have c2b1 : decide (2147483647 < l0.length) = true := decide_eq_true (by omega)
    clear c2
    obtain rfl := Option.some.inj H
    go_enter Try.func11, Try.ntmps11
    go_wp2
    go_ret
    exact ⟨by first | rfl | (simp [errW_none, errW_some] <;> rfl) | (simp [*, errW_none, errW_some] <;> rfl), by repeat (first | (with_reducible first | exact HB.out | apply below_alloc | apply pw_below_drewN | apply below_drew1) | exact HB.out)⟩
  · rw [if_neg c2] at H
    have c2b0 : decide (2147483647 < (l0.length : Int)) = false := decide_eq_false c2
    have c2b1 : decide (2147483647 < l0.length) = false := decide_eq_false (by omega)
    clear c2
    have H' := Aside0.mk H
    clear H
    go_enter Try.func11, Try.ntmps11
    go_wp2
    go_loopg [10] k (fun kq v10 w' => ∃ (x10_1 : Int), v10 = .int .i64 x10_1 ∧ Aside0 (laws_zzFits7.l0 kq l0 (l0.length : Int) x10_1 = some r) ∧ Aside0 (kq ≤ k) ∧ Aside0 (Below w.heap.size w w'))
    case atStart => exact ⟨(0), (by first | rfl | (simp; done) | (simp [*]; done)), H', ⟨Nat.le_refl _⟩, ⟨by repeat (first | (with_reducible first | exact HB.out | apply below_alloc | apply pw_below_drewN | apply below_drew1) | exact HB.out)⟩⟩
    case round =>
      clear H'
      try clear c1
      try clear c2
      try clear c2b0
      try clear c2b1
      try clear p2
      obtain ⟨x10_1, rfl, HA, HK1, HB⟩ := hrel
      cases gk with
      | zero => exact absurd HA.out (by simp [laws_zzFits7.l0])
      | succ k1 =>
        have H := HA.out
        clear HA
        simp only [laws_zzFits7.l0] at H
        by_cases c3 : x10_1 < (l0.length : Int)
        · rw [if_pos c3] at H
          have c3b0 : decide (x10_1 < (l0.length : Int)) = true := decide_eq_true c3
          clear c3
          by_cases c4 : 0 ≤ x10_1
          · rw [if_pos c4] at H
            have c4b0 : decide (0 ≤ x10_1) = true := decide_eq_true c4
            clear c4
            by_cases c5 : x10_1 < (l0.length : Int)
            · rw [if_pos c5] at H
              have c5b0 : decide (x10_1 < (l0.length : Int)) = true := decide_eq_true c5
              clear c5
              replace H := Option.bind_eq_some_iff.mp H
              obtain ⟨t104, A60, H⟩ := H
              replace H : (if t104 = true then (laws_zzFits7.l0 k1 l0 (l0.length : Int) (wrap64 (x10_1 + 1))) else (some false)) = some r := H
              have A6 := Aside0.mk A60
              clear A60
              by_cases c7 : t104 = true
              · subst c7
                have H1 : (laws_zzFits7.l0 k1 l0 (l0.length : Int) (wrap64 (x10_1 + 1))) = some r := by rw [if_pos rfl] at H; exact H
                clear H
                have H := H1
                clear H1
                have H' := Aside0.mk H
                clear H
                have p102 : 0 ≤ (x10_1 : Int) := of_decide_eq_true (by first | (with_reducible assumption) | assumption)
                have q102 : x10_1 < (l0.length : Int) := of_decide_eq_true (by first | (with_reducible assumption) | assumption)
                obtain ⟨ad102, e102, hx102_0, hx102_1, hx102_2, hx102_3, hx102_4⟩ := at_T26 HR0.out x10_1 p102 q102
                cases e102
                replace hx102_0 := (HB.out.cell (World.block_lt_of_cell? w _ hx102_0)).trans hx102_0
                replace hx102_1 := (HB.out.cell (World.block_lt_of_cell? w _ hx102_1)).trans hx102_1
                replace hx102_2 := (HB.out.cell (World.block_lt_of_cell? w _ hx102_2)).trans hx102_2
                replace hx102_3 := (HB.out.cell (World.block_lt_of_cell? w _ hx102_3)).trans hx102_3
                replace hx102_4 := (HB.out.cell (World.block_lt_of_cell? w _ hx102_4)).trans hx102_4
                replace p102 := eq_true p102
                replace q102 := eq_true q102
                go_wp2_with (first | ((with_reducible refine gate_dst (N := 4) rfl ?_); refine box_event ?hg (N := 4) ?hd (cs := #[.int .i64 0, .string (⟨#[]⟩ : ByteArray), .int .i64 0, .int .i64 0, .int .i64 0]) (t := 26) ?hr ?_; (case hd => rfl); (case hg => rfl); (case hr => first | (go_simp; done) | (go_simp; rfl)); intro gb103 hg w8 hbox hb; have n0_ := Aside0.mk (below_step (by repeat (first | (with_reducible first | exact HB.out | apply below_alloc | apply pw_below_drewN | apply below_drew1) | exact HB.out)) hb); have n1_ := Aside0.mk (hbox); have n2_ := Aside0.mk ((by rw [hg]; exact (below_size (by repeat (first | (with_reducible first | exact HB.out | apply below_alloc | apply pw_below_drewN | apply below_drew1) | exact HB.out))) : w.heap.size ≤ gb103)); have n3_ := Aside0.mk ((by rw [hg]; exact (below_size (by repeat (first | (with_reducible first | exact HB.out | apply below_alloc | apply pw_below_drewN | apply below_drew1) | exact HB.out))) : w.heap.size ≤ gb103)); clear HB; have HB := n0_; have BK103 := n1_; have GW103 := n2_; have GE103 := n3_; clear n0_ n1_ n2_ n3_; clear hb hbox hg; have hcz9_0 : w8.cell? ⟨gb103, 0, none⟩ = some (.int .i64 0) := (blk_cell BK103.out 0).trans rfl; have hcz9_1 : w8.cell? ⟨gb103, 1, none⟩ = some (.string (⟨#[]⟩ : ByteArray)) := (blk_cell BK103.out 1).trans rfl; have hcz9_2 : w8.cell? ⟨gb103, 2, none⟩ = some (.int .i64 0) := (blk_cell BK103.out 2).trans rfl; have hcz9_3 : w8.cell? ⟨gb103, 3, none⟩ = some (.int .i64 0) := (blk_cell BK103.out 3).trans rfl; have hcz9_4 : w8.cell? ⟨gb103, 4, none⟩ = some (.int .i64 0) := (blk_cell BK103.out 4).trans rfl; have hfz9_0 := blk_frozen BK103.out 0; have hfz9_1 := blk_frozen BK103.out 1; have hfz9_2 := blk_frozen BK103.out 2; have hfz9_3 := blk_frozen BK103.out 3; have hfz9_4 := blk_frozen BK103.out 4) | ((with_reducible refine gate_callee (f := 42) rfl ?_); refine goesL_ (some 15) rfl rfl Try.func42 (by kernel_rfl) rfl #[.agg #[.int .i64 ((rd_T26 l0 x10_1).f0), .string ((rd_T26 l0 x10_1).f1), .int .i64 ((rd_T26 l0 x10_1).f2), .int .i64 ((rd_T26 l0 x10_1).f3), .int .i64 ((rd_T26 l0 x10_1).f4)]] rfl (by (try simp only [List.map_toArray, List.map_cons, List.map_nil]); first | done | rfl | (simp only [List.length_drop, List.length_take]; rfl)) ?_; (with_reducible refine (laws_zzFits8.calls ((rd_T26 l0 x10_1).f0) ((rd_T26 l0 x10_1).f1) ((rd_T26 l0 x10_1).f2) ((rd_T26 l0 x10_1).f3) ((rd_T26 l0 x10_1).f4) true _ A6.out).mono ?_); rintro e w10 ⟨rfl, hb⟩; refine ⟨_, rfl, ?_⟩; have n0_ := Aside0.mk (blk_below (g := gb103) (o := .cells #[.int .i64 ((rd_T26 l0 x10_1).f0), .string ((rd_T26 l0 x10_1).f1), .int .i64 ((rd_T26 l0 x10_1).f2), .int .i64 ((rd_T26 l0 x10_1).f3), .int .i64 ((rd_T26 l0 x10_1).f4)] 26 (0, 0)) (by (with_reducible repeat (first | refine blk_drewN ?_ _ | refine blk_drew ?_ | refine blk_alloc ?_ _)); refine blk_put (cs := #[.int .i64 ((rd_T26 l0 x10_1).f0), .string ((rd_T26 l0 x10_1).f1), .int .i64 ((rd_T26 l0 x10_1).f2), .int .i64 ((rd_T26 l0 x10_1).f3), .int .i64 0]) ?_ 4 _ rfl; (with_reducible repeat (first | refine blk_drewN ?_ _ | refine blk_drew ?_ | refine blk_alloc ?_ _)); refine blk_put (cs := #[.int .i64 ((rd_T26 l0 x10_1).f0), .string ((rd_T26 l0 x10_1).f1), .int .i64 ((rd_T26 l0 x10_1).f2), .int .i64 0, .int .i64 0]) ?_ 3 _ rfl; (with_reducible repeat (first | refine blk_drewN ?_ _ | refine blk_drew ?_ | refine blk_alloc ?_ _)); refine blk_put (cs := #[.int .i64 ((rd_T26 l0 x10_1).f0), .string ((rd_T26 l0 x10_1).f1), .int .i64 0, .int .i64 0, .int .i64 0]) ?_ 2 _ rfl; (with_reducible repeat (first | refine blk_drewN ?_ _ | refine blk_drew ?_ | refine blk_alloc ?_ _)); refine blk_put (cs := #[.int .i64 ((rd_T26 l0 x10_1).f0), .string (⟨#[]⟩ : ByteArray), .int .i64 0, .int .i64 0, .int .i64 0]) ?_ 1 _ rfl; (with_reducible repeat (first | refine blk_drewN ?_ _ | refine blk_drew ?_ | refine blk_alloc ?_ _)); refine blk_put (cs := #[.int .i64 0, .string (⟨#[]⟩ : ByteArray), .int .i64 0, .int .i64 0, .int .i64 0]) ?_ 0 _ rfl; (with_reducible repeat (first | refine blk_drewN ?_ _ | refine blk_drew ?_ | refine blk_alloc ?_ _)); exact BK103.out) hb); have n1_ := Aside0.mk (below_step (by repeat (first | (with_reducible first | exact HB.out | apply below_alloc | apply pw_below_drewN | apply below_drew1 | refine below_set ?_ GE103.out) | exact HB.out)) hb); clear BK103; clear HB; have BK103 := n0_; have HB := n1_; clear n0_ n1_; (try clear hb); (try clear hb2); (try clear hk); (try clear hi)))
                go_roundg k1
                case measure => have := HK1.out; omega
                case rel => exact ⟨(wrap64 (x10_1 + 1)), (by first | rfl | (simp; done) | (simp [*]; done)), H', ⟨by have := HK1.out; omega⟩, ⟨by repeat (first | (with_reducible first | exact HB.out | apply below_alloc | apply pw_below_drewN | apply below_drew1 | refine below_set ?_ GE103.out) | exact HB.out)⟩⟩
              · replace c7 := Bool.eq_false_iff.mpr c7
                subst c7
                have H1 : (some false) = some r := by rw [if_neg (show ¬ (false = true) by decide)] at H; exact H
                clear H
                have H := H1
                clear H1
                obtain rfl := Option.some.inj H
                have p102 : 0 ≤ (x10_1 : Int) := of_decide_eq_true (by first | (with_reducible assumption) | assumption)
                have q102 : x10_1 < (l0.length : Int) := of_decide_eq_true (by first | (with_reducible assumption) | assumption)
                obtain ⟨ad102, e102, hx102_0, hx102_1, hx102_2, hx102_3, hx102_4⟩ := at_T26 HR0.out x10_1 p102 q102
                cases e102
                replace hx102_0 := (HB.out.cell (World.block_lt_of_cell? w _ hx102_0)).trans hx102_0
                replace hx102_1 := (HB.out.cell (World.block_lt_of_cell? w _ hx102_1)).trans hx102_1
                replace hx102_2 := (HB.out.cell (World.block_lt_of_cell? w _ hx102_2)).trans hx102_2
                replace hx102_3 := (HB.out.cell (World.block_lt_of_cell? w _ hx102_3)).trans hx102_3
                replace hx102_4 := (HB.out.cell (World.block_lt_of_cell? w _ hx102_4)).trans hx102_4
                replace p102 := eq_true p102
                replace q102 := eq_true q102
                go_wp2_with (first | ((with_reducible refine gate_dst (N := 4) rfl ?_); refine box_event ?hg (N := 4) ?hd (cs := #[.int .i64 0, .string (⟨#[]⟩ : ByteArray), .int .i64 0, .int .i64 0, .int .i64 0]) (t := 26) ?hr ?_; (case hd => rfl); (case hg => rfl); (case hr => first | (go_simp; done) | (go_simp; rfl)); intro gb103 hg w11 hbox hb; have n0_ := Aside0.mk (below_step (by repeat (first | (with_reducible first | exact HB.out | apply below_alloc | apply pw_below_drewN | apply below_drew1) | exact HB.out)) hb); have n1_ := Aside0.mk (hbox); have n2_ := Aside0.mk ((by rw [hg]; exact (below_size (by repeat (first | (with_reducible first | exact HB.out | apply below_alloc | apply pw_below_drewN | apply below_drew1) | exact HB.out))) : w.heap.size ≤ gb103)); have n3_ := Aside0.mk ((by rw [hg]; exact (below_size (by repeat (first | (with_reducible first | exact HB.out | apply below_alloc | apply pw_below_drewN | apply below_drew1) | exact HB.out))) : w.heap.size ≤ gb103)); clear HB; have HB := n0_; have BK103 := n1_; have GW103 := n2_; have GE103 := n3_; clear n0_ n1_ n2_ n3_; clear hb hbox hg; have hcz12_0 : w11.cell? ⟨gb103, 0, none⟩ = some (.int .i64 0) := (blk_cell BK103.out 0).trans rfl; have hcz12_1 : w11.cell? ⟨gb103, 1, none⟩ = some (.string (⟨#[]⟩ : ByteArray)) := (blk_cell BK103.out 1).trans rfl; have hcz12_2 : w11.cell? ⟨gb103, 2, none⟩ = some (.int .i64 0) := (blk_cell BK103.out 2).trans rfl; have hcz12_3 : w11.cell? ⟨gb103, 3, none⟩ = some (.int .i64 0) := (blk_cell BK103.out 3).trans rfl; have hcz12_4 : w11.cell? ⟨gb103, 4, none⟩ = some (.int .i64 0) := (blk_cell BK103.out 4).trans rfl; have hfz12_0 := blk_frozen BK103.out 0; have hfz12_1 := blk_frozen BK103.out 1; have hfz12_2 := blk_frozen BK103.out 2; have hfz12_3 := blk_frozen BK103.out 3; have hfz12_4 := blk_frozen BK103.out 4) | ((with_reducible refine gate_callee (f := 42) rfl ?_); refine goesL_ (some 15) rfl rfl Try.func42 (by kernel_rfl) rfl #[.agg #[.int .i64 ((rd_T26 l0 x10_1).f0), .string ((rd_T26 l0 x10_1).f1), .int .i64 ((rd_T26 l0 x10_1).f2), .int .i64 ((rd_T26 l0 x10_1).f3), .int .i64 ((rd_T26 l0 x10_1).f4)]] rfl (by (try simp only [List.map_toArray, List.map_cons, List.map_nil]); first | done | rfl | (simp only [List.length_drop, List.length_take]; rfl)) ?_; (with_reducible refine (laws_zzFits8.calls ((rd_T26 l0 x10_1).f0) ((rd_T26 l0 x10_1).f1) ((rd_T26 l0 x10_1).f2) ((rd_T26 l0 x10_1).f3) ((rd_T26 l0 x10_1).f4) false _ A6.out).mono ?_); rintro e w13 ⟨rfl, hb⟩; refine ⟨_, rfl, ?_⟩; have n0_ := Aside0.mk (blk_below (g := gb103) (o := .cells #[.int .i64 ((rd_T26 l0 x10_1).f0), .string ((rd_T26 l0 x10_1).f1), .int .i64 ((rd_T26 l0 x10_1).f2), .int .i64 ((rd_T26 l0 x10_1).f3), .int .i64 ((rd_T26 l0 x10_1).f4)] 26 (0, 0)) (by (with_reducible repeat (first | refine blk_drewN ?_ _ | refine blk_drew ?_ | refine blk_alloc ?_ _)); refine blk_put (cs := #[.int .i64 ((rd_T26 l0 x10_1).f0), .string ((rd_T26 l0 x10_1).f1), .int .i64 ((rd_T26 l0 x10_1).f2), .int .i64 ((rd_T26 l0 x10_1).f3), .int .i64 0]) ?_ 4 _ rfl; (with_reducible repeat (first | refine blk_drewN ?_ _ | refine blk_drew ?_ | refine blk_alloc ?_ _)); refine blk_put (cs := #[.int .i64 ((rd_T26 l0 x10_1).f0), .string ((rd_T26 l0 x10_1).f1), .int .i64 ((rd_T26 l0 x10_1).f2), .int .i64 0, .int .i64 0]) ?_ 3 _ rfl; (with_reducible repeat (first | refine blk_drewN ?_ _ | refine blk_drew ?_ | refine blk_alloc ?_ _)); refine blk_put (cs := #[.int .i64 ((rd_T26 l0 x10_1).f0), .string ((rd_T26 l0 x10_1).f1), .int .i64 0, .int .i64 0, .int .i64 0]) ?_ 2 _ rfl; (with_reducible repeat (first | refine blk_drewN ?_ _ | refine blk_drew ?_ | refine blk_alloc ?_ _)); refine blk_put (cs := #[.int .i64 ((rd_T26 l0 x10_1).f0), .string (⟨#[]⟩ : ByteArray), .int .i64 0, .int .i64 0, .int .i64 0]) ?_ 1 _ rfl; (with_reducible repeat (first | refine blk_drewN ?_ _ | refine blk_drew ?_ | refine blk_alloc ?_ _)); refine blk_put (cs := #[.int .i64 0, .string (⟨#[]⟩ : ByteArray), .int .i64 0, .int .i64 0, .int .i64 0]) ?_ 0 _ rfl; (with_reducible repeat (first | refine blk_drewN ?_ _ | refine blk_drew ?_ | refine blk_alloc ?_ _)); exact BK103.out) hb); have n1_ := Aside0.mk (below_step (by repeat (first | (with_reducible first | exact HB.out | apply below_alloc | apply pw_below_drewN | apply below_drew1 | refine below_set ?_ GE103.out) | exact HB.out)) hb); clear BK103; clear HB; have BK103 := n0_; have HB := n1_; clear n0_ n1_; (try clear hb); (try clear hb2); (try clear hk); (try clear hi)))
                go_ret
                exact ⟨by first | rfl | (simp [errW_none, errW_some] <;> rfl) | (simp [*, errW_none, errW_some] <;> rfl), by repeat (first | (with_reducible first | exact HB.out | apply below_alloc | apply pw_below_drewN | apply below_drew1 | refine below_set ?_ GE103.out) | exact HB.out)⟩
            · rw [if_neg c5] at H
              exact absurd H (by simp)
          · rw [if_neg c4] at H
            exact absurd H (by simp)
        · rw [if_neg c3] at H
          have c3b0 : decide (x10_1 < (l0.length : Int)) = false := decide_eq_false c3
          clear c3
          obtain rfl := Option.some.inj H
          go_wp2
          go_ret
          exact ⟨by first | rfl | (simp [errW_none, errW_some] <;> rfl) | (simp [*, errW_none, errW_some] <;> rfl), by repeat (first | (with_reducible first | exact HB.out | apply below_alloc | apply pw_below_drewN | apply below_drew1) | exact HB.out)⟩

/-! ### laws_areSteps: function 12 -/
mutual
def laws_areSteps.l0 : Nat → List (S26) → List Int → List (S26) → Int → Int → Option (Bool)
  | 0, _, _, _, _, _ => none
  | k + 1, x0, x1, x10, x11, x12 => if x12 < x11 then (if 0 ≤ x12 then (if x12 < (x10.length : Int) then (laws_areSteps.l1 k x0 x1 false x10 x11 x12 x1 (x1.length : Int) 0 ((rd_T26 x10 x12).f0) ((rd_T26 x10 x12).f1) ((rd_T26 x10 x12).f2) ((rd_T26 x10 x12).f3) ((rd_T26 x10 x12).f4)) else (none)) else (none)) else (some (decide ((x0.length : Int) ≤ 20)))
def laws_areSteps.l1 : Nat → List (S26) → List Int → Bool → List (S26) → Int → Int → List Int → Int → Int → Int → ByteArray → Int → Int → Int → Option (Bool)
  | 0, _, _, _, _, _, _, _, _, _, _, _, _, _, _ => none
  | k + 1, x0, x1, x7, x10, x11, x12, x16, x17, x18, x107000, x107001, x107002, x107003, x107004 => if x18 < x17 then (if 0 ≤ x18 then (if x18 < (x16.length : Int) then (if x7 = true then (laws_areSteps.l1 k x0 x1 true x10 x11 x12 x16 x17 (wrap64 (x18 + 1)) x107000 x107001 x107002 x107003 x107004) else (laws_areSteps.l1 k x0 x1 (x107000 == (rd x16 x18)) x10 x11 x12 x16 x17 (wrap64 (x18 + 1)) x107000 x107001 x107002 x107003 x107004)) else (none)) else (none)) else (if x7 = true then (if (x107001.size : Int) > 20 then (some false) else (if x107002 < (-1000000) then (some false) else (if x107002 > 1000000 then (some false) else (if x107003 < (-1000000) then (some false) else (if x107003 > 1000000 then (some false) else (if x107004 < x107003 then (some false) else (if x107004 > 1000000 then (some false) else (laws_areSteps.l0 k x0 x1 x10 x11 (wrap64 (x12 + 1)))))))))) else (some false))
end
def laws_areSteps.f (k : Nat) (l0 : List (S26)) (l1 : List Int) : Option (Bool) := laws_areSteps.l0 k l0 l1 l0 (l0.length : Int) 0
theorem laws_areSteps.mono_l : ∀ k, (∀ y0 y1 y2 y3 y4, LeO (laws_areSteps.l0 k y0 y1 y2 y3 y4) (laws_areSteps.l0 (k + 1) y0 y1 y2 y3 y4)) ∧ (∀ y0 y1 y2 y3 y4 y5 y6 y7 y8 y9 y10 y11 y12 y13, LeO (laws_areSteps.l1 k y0 y1 y2 y3 y4 y5 y6 y7 y8 y9 y10 y11 y12 y13) (laws_areSteps.l1 (k + 1) y0 y1 y2 y3 y4 y5 y6 y7 y8 y9 y10 y11 y12 y13))
  | 0 => ⟨fun _ _ _ _ _ r h => by simp [laws_areSteps.l0] at h, fun _ _ _ _ _ _ _ _ _ _ _ _ _ _ r h => by simp [laws_areSteps.l1] at h⟩
  | k + 1 => by
    obtain ⟨ih0, ih1⟩ := laws_areSteps.mono_l k
    refine ⟨?_, ?_⟩
    · intro y0 y1 y2 y3 y4
      unfold laws_areSteps.l0
      repeat' first
      | (with_reducible exact ih0 _ _ _ _ _)
      | (with_reducible exact ih1 _ _ _ _ _ _ _ _ _ _ _ _ _ _)
      | (with_reducible exact LeO.refl _)
      | (with_reducible exact LeO.none _)
      | (with_reducible refine LeO.ite ?_ ?_)
      | (with_reducible refine LeO.bind ?_ (fun _ => ?_))
      | exact ih0 _ _ _ _ _
      | exact ih1 _ _ _ _ _ _ _ _ _ _ _ _ _ _
      | exact LeO.none _
      | refine LeO.ite ?_ ?_
      | refine LeO.bind ?_ (fun _ => ?_)
    · intro y0 y1 y2 y3 y4 y5 y6 y7 y8 y9 y10 y11 y12 y13
      unfold laws_areSteps.l1
      repeat' first
      | (with_reducible exact ih0 _ _ _ _ _)
      | (with_reducible exact ih1 _ _ _ _ _ _ _ _ _ _ _ _ _ _)
      | (with_reducible exact LeO.refl _)
      | (with_reducible exact LeO.none _)
      | (with_reducible refine LeO.ite ?_ ?_)
      | (with_reducible refine LeO.bind ?_ (fun _ => ?_))
      | exact ih0 _ _ _ _ _
      | exact ih1 _ _ _ _ _ _ _ _ _ _ _ _ _ _
      | exact LeO.none _
      | refine LeO.ite ?_ ?_
      | refine LeO.bind ?_ (fun _ => ?_)
theorem laws_areSteps.mono : ∀ a0 a1 k, LeO (laws_areSteps.f k a0 a1) (laws_areSteps.f (k + 1) a0 a1) := by
  intro a0 a1 k
  obtain ⟨ih0, ih1⟩ := laws_areSteps.mono_l k
  unfold laws_areSteps.f
  repeat' first
      | (with_reducible exact ih0 _ _ _ _ _)
      | (with_reducible exact ih1 _ _ _ _ _ _ _ _ _ _ _ _ _ _)
      | (with_reducible exact LeO.refl _)
      | (with_reducible exact LeO.none _)
      | (with_reducible refine LeO.ite ?_ ?_)
      | (with_reducible refine LeO.bind ?_ (fun _ => ?_))
      | exact ih0 _ _ _ _ _
      | exact ih1 _ _ _ _ _ _ _ _ _ _ _ _ _ _
      | exact LeO.none _
      | refine LeO.ite ?_ ?_
      | refine LeO.bind ?_ (fun _ => ?_)
set_option maxHeartbeats 8000000 in
set_option maxRecDepth 100000 in
theorem laws_areSteps.calls (k : Nat) (A0 : Option Addr) (c0 : Nat) (l0 : List (S26)) (A1 : Option Addr) (c1 : Nat) (l1 : List Int) (r : Bool) (w : World) (hr0 : Kd.C k26 w A0 l0.length l0) (hc0 : l0.length ≤ c0) (hr1 : Kd.C (Kd.int .i64) w A1 l1.length l1) (hc1 : l1.length ≤ c1) (h : laws_areSteps.f k l0 l1 = some r) :
    Calls Try.prog 12 #[.slice A0 l0.length c0, .slice A1 l1.length c1] w fun e w' => e = .returned (.bool r) ∧ Below w.heap.size w w' := by
  have hu26 := Try.underlying26
  have HR0 := Aside0.mk hr0
  have HC0 := Aside0.mk hc0
  clear hr0 hc0
  have HR1 := Aside0.mk hr1
  have HC1 := Aside0.mk hc1
  clear hr1 hc1
  have HB := Aside0.mk (Below.refl w.heap.size w)
  have H : (laws_areSteps.l0 k l0 l1 l0 (l0.length : Int) 0) = some r := h
  clear h
  have H' := Aside0.mk H
  clear H
  go_enter Try.func12, Try.ntmps12
  go_wp2
  go_loopg [12] k (fun kq v12 w' => ∃ (x12_1 : Int), v12 = .int .i64 x12_1 ∧ Aside0 (laws_areSteps.l0 kq l0 l1 l0 (l0.length : Int) x12_1 = some r) ∧ Aside0 (kq ≤ k) ∧ Aside0 (Below w.heap.size w w'))
  case atStart => exact ⟨(0), (by first | rfl | (simp; done) | (simp [*]; done)), H', ⟨Nat.le_refl _⟩, ⟨by repeat (first | (with_reducible first | exact HB.out | apply below_alloc | apply pw_below_drewN | apply below_drew1) | exact HB.out)⟩⟩
  case round =>
    clear H'
    try clear c1
    try clear p2
    obtain ⟨x12_1, rfl, HA, HK1, HB⟩ := hrel
    cases gk with
    | zero => exact absurd HA.out (by simp [laws_areSteps.l0])
    | succ k1 =>
      have H := HA.out
      clear HA
      simp only [laws_areSteps.l0] at H
      by_cases c3 : x12_1 < (l0.length : Int)
      · rw [if_pos c3] at H
        have c3b0 : decide (x12_1 < (l0.length : Int)) = true := decide_eq_true c3
        clear c3
        by_cases c4 : 0 ≤ x12_1
        · rw [if_pos c4] at H
          have c4b0 : decide (0 ≤ x12_1) = true := decide_eq_true c4
          clear c4
          by_cases c5 : x12_1 < (l0.length : Int)
          · rw [if_pos c5] at H
            have c5b0 : decide (x12_1 < (l0.length : Int)) = true := decide_eq_true c5
            clear c5
            have H' := Aside0.mk H
            clear H
            have p105 : 0 ≤ (x12_1 : Int) := of_decide_eq_true (by first | (with_reducible assumption) | assumption)
            have q105 : x12_1 < (l0.length : Int) := of_decide_eq_true (by first | (with_reducible assumption) | assumption)
            obtain ⟨ad105, e105, hx105_0, hx105_1, hx105_2, hx105_3, hx105_4⟩ := at_T26 HR0.out x12_1 p105 q105
            cases e105
            replace hx105_0 := (HB.out.cell (World.block_lt_of_cell? w _ hx105_0)).trans hx105_0
            replace hx105_1 := (HB.out.cell (World.block_lt_of_cell? w _ hx105_1)).trans hx105_1
            replace hx105_2 := (HB.out.cell (World.block_lt_of_cell? w _ hx105_2)).trans hx105_2
            replace hx105_3 := (HB.out.cell (World.block_lt_of_cell? w _ hx105_3)).trans hx105_3
            replace hx105_4 := (HB.out.cell (World.block_lt_of_cell? w _ hx105_4)).trans hx105_4
            replace p105 := eq_true p105
            replace q105 := eq_true q105
            go_wp2_with (first | ((with_reducible refine gate_dst (N := 6) rfl ?_); (try (refine gate_guard (by rfl) ?_; dsimp only)); refine box_event ?hg (N := 6) ?hd (cs := #[.int .i64 0, .string (⟨#[]⟩ : ByteArray), .int .i64 0, .int .i64 0, .int .i64 0]) (t := 26) ?hr ?_; (case hd => rfl); (case hg => rfl); (case hr => first | (go_simp; done) | (go_simp; rfl)); intro gb106 hg w6 hbox hb; have n0_ := Aside0.mk (below_step (by repeat (first | (with_reducible first | exact HB.out | apply below_alloc | apply pw_below_drewN | apply below_drew1) | exact HB.out)) hb); have n1_ := Aside0.mk (hbox); have n2_ := Aside0.mk ((by rw [hg]; exact (below_size (by repeat (first | (with_reducible first | exact HB.out | apply below_alloc | apply pw_below_drewN | apply below_drew1) | exact HB.out))) : w.heap.size ≤ gb106)); have n3_ := Aside0.mk ((by rw [hg]; exact (below_size (by repeat (first | (with_reducible first | exact HB.out | apply below_alloc | apply pw_below_drewN | apply below_drew1) | exact HB.out))) : w.heap.size ≤ gb106)); clear HB; have HB := n0_; have BK106 := n1_; have GW106 := n2_; have GE106 := n3_; clear n0_ n1_ n2_ n3_; clear hb hbox hg; have hcz7_0 : w6.cell? ⟨gb106, 0, none⟩ = some (.int .i64 0) := (blk_cell BK106.out 0).trans rfl; have hcz7_1 : w6.cell? ⟨gb106, 1, none⟩ = some (.string (⟨#[]⟩ : ByteArray)) := (blk_cell BK106.out 1).trans rfl; have hcz7_2 : w6.cell? ⟨gb106, 2, none⟩ = some (.int .i64 0) := (blk_cell BK106.out 2).trans rfl; have hcz7_3 : w6.cell? ⟨gb106, 3, none⟩ = some (.int .i64 0) := (blk_cell BK106.out 3).trans rfl; have hcz7_4 : w6.cell? ⟨gb106, 4, none⟩ = some (.int .i64 0) := (blk_cell BK106.out 4).trans rfl; have hfz7_0 := blk_frozen BK106.out 0; have hfz7_1 := blk_frozen BK106.out 1; have hfz7_2 := blk_frozen BK106.out 2; have hfz7_3 := blk_frozen BK106.out 3; have hfz7_4 := blk_frozen BK106.out 4))
            go_loopg [7, 18] k1 (fun kq v7 v18 w' => ∃ (x7_2 : Bool) (x18_2 : Int), v7 = .bool x7_2 ∧ v18 = .int .i64 x18_2 ∧ Aside0 (laws_areSteps.l1 kq l0 l1 x7_2 l0 (l0.length : Int) x12_1 l1 (l1.length : Int) x18_2 ((rd_T26 l0 x12_1).f0) ((rd_T26 l0 x12_1).f1) ((rd_T26 l0 x12_1).f2) ((rd_T26 l0 x12_1).f3) ((rd_T26 l0 x12_1).f4) = some r) ∧ Aside0 (kq ≤ k1) ∧ Aside0 (w'.heap[gb106]? = some (.cells #[.int .i64 ((rd_T26 l0 x12_1).f0), .string ((rd_T26 l0 x12_1).f1), .int .i64 ((rd_T26 l0 x12_1).f2), .int .i64 ((rd_T26 l0 x12_1).f3), .int .i64 ((rd_T26 l0 x12_1).f4)] 26 (0, 0))) ∧ Aside0 (Below w.heap.size w w'))
            case atStart => exact ⟨(false), (0), (by first | rfl | (simp; done) | (simp [*]; done)), (by first | rfl | (simp; done) | (simp [*]; done)), H', ⟨Nat.le_refl _⟩, ⟨by (with_reducible repeat (first | refine blk_drewN ?_ _ | refine blk_drew ?_ | refine blk_alloc ?_ _)); refine blk_put (cs := #[.int .i64 ((rd_T26 l0 x12_1).f0), .string ((rd_T26 l0 x12_1).f1), .int .i64 ((rd_T26 l0 x12_1).f2), .int .i64 ((rd_T26 l0 x12_1).f3), .int .i64 0]) ?_ 4 _ rfl; (with_reducible repeat (first | refine blk_drewN ?_ _ | refine blk_drew ?_ | refine blk_alloc ?_ _)); refine blk_put (cs := #[.int .i64 ((rd_T26 l0 x12_1).f0), .string ((rd_T26 l0 x12_1).f1), .int .i64 ((rd_T26 l0 x12_1).f2), .int .i64 0, .int .i64 0]) ?_ 3 _ rfl; (with_reducible repeat (first | refine blk_drewN ?_ _ | refine blk_drew ?_ | refine blk_alloc ?_ _)); refine blk_put (cs := #[.int .i64 ((rd_T26 l0 x12_1).f0), .string ((rd_T26 l0 x12_1).f1), .int .i64 0, .int .i64 0, .int .i64 0]) ?_ 2 _ rfl; (with_reducible repeat (first | refine blk_drewN ?_ _ | refine blk_drew ?_ | refine blk_alloc ?_ _)); refine blk_put (cs := #[.int .i64 ((rd_T26 l0 x12_1).f0), .string (⟨#[]⟩ : ByteArray), .int .i64 0, .int .i64 0, .int .i64 0]) ?_ 1 _ rfl; (with_reducible repeat (first | refine blk_drewN ?_ _ | refine blk_drew ?_ | refine blk_alloc ?_ _)); refine blk_put (cs := #[.int .i64 0, .string (⟨#[]⟩ : ByteArray), .int .i64 0, .int .i64 0, .int .i64 0]) ?_ 0 _ rfl; (with_reducible repeat (first | refine blk_drewN ?_ _ | refine blk_drew ?_ | refine blk_alloc ?_ _)); exact BK106.out⟩, ⟨by repeat (first | (with_reducible first | exact HB.out | apply below_alloc | apply pw_below_drewN | apply below_drew1 | refine below_set ?_ GE106.out) | exact HB.out)⟩⟩
            case round =>
              clear H'
              try clear c1
              try clear p1
              try clear q1
              try clear hx1
              try clear p2
              try clear c3
              try clear c3b0
              try clear c4
              try clear c4b0
              try clear c5
              try clear c5b0
              try clear hcz7_0
              try clear hcz7_1
              try clear hcz7_2
              try clear hcz7_3
              try clear hcz7_4
              try clear hfz7_0
              try clear hfz7_1
              try clear hfz7_2
              try clear hfz7_3
              try clear hfz7_4
              try clear hx105_0
              try clear hx105_1
              try clear hx105_2
              try clear hx105_3
              try clear hx105_4
              try clear p105
              try clear p2
              try clear q105
              obtain ⟨x7_2, x18_2, rfl, rfl, HA, HK2, BK106, HB⟩ := hrel
              cases gk with
              | zero => exact absurd HA.out (by simp [laws_areSteps.l1])
              | succ k2 =>
                have H := HA.out
                clear HA
                simp only [laws_areSteps.l1] at H
                by_cases c8 : x18_2 < (l1.length : Int)
                · rw [if_pos c8] at H
                  have c8b0 : decide (x18_2 < (l1.length : Int)) = true := decide_eq_true c8
                  clear c8
                  by_cases c9 : 0 ≤ x18_2
                  · rw [if_pos c9] at H
                    have c9b0 : decide (0 ≤ x18_2) = true := decide_eq_true c9
                    clear c9
                    by_cases c10 : x18_2 < (l1.length : Int)
                    · rw [if_pos c10] at H
                      have c10b0 : decide (x18_2 < (l1.length : Int)) = true := decide_eq_true c10
                      clear c10
                      by_cases c11 : x7_2 = true
                      · subst c11
                        have H1 : (laws_areSteps.l1 k2 l0 l1 true l0 (l0.length : Int) x12_1 l1 (l1.length : Int) (wrap64 (x18_2 + 1)) ((rd_T26 l0 x12_1).f0) ((rd_T26 l0 x12_1).f1) ((rd_T26 l0 x12_1).f2) ((rd_T26 l0 x12_1).f3) ((rd_T26 l0 x12_1).f4)) = some r := by rw [if_pos rfl] at H; exact H
                        clear H
                        have H := H1
                        clear H1
                        have H' := Aside0.mk H
                        clear H
                        have p107 : 0 ≤ (x18_2 : Int) := of_decide_eq_true (by first | (with_reducible assumption) | assumption)
                        have q107 : x18_2 < (l1.length : Int) := of_decide_eq_true (by first | (with_reducible assumption) | assumption)
                        obtain ⟨ad107, e107, hx107_0⟩ := Kd.at_int HR1.out x18_2 p107 q107
                        cases e107
                        replace hx107_0 := (HB.out.cell (World.block_lt_of_cell? w _ hx107_0)).trans hx107_0
                        replace p107 := eq_true p107
                        replace q107 := eq_true q107
                        go_wp2
                        go_roundg k2
                        case measure => have := HK1.out; have := HK2.out; omega
                        case rel => exact ⟨(true), (wrap64 (x18_2 + 1)), (by first | rfl | (simp; done) | (simp [*]; done)), (by first | rfl | (simp; done) | (simp [*]; done)), H', ⟨by have := HK1.out; have := HK2.out; omega⟩, ⟨by (with_reducible repeat (first | refine blk_drewN ?_ _ | refine blk_drew ?_ | refine blk_alloc ?_ _)); exact BK106.out⟩, ⟨by repeat (first | (with_reducible first | exact HB.out | apply below_alloc | apply pw_below_drewN | apply below_drew1 | refine below_set ?_ GE106.out) | exact HB.out)⟩⟩
                      · replace c11 := Bool.eq_false_iff.mpr c11
                        subst c11
                        have H1 : (laws_areSteps.l1 k2 l0 l1 (((rd_T26 l0 x12_1).f0) == (rd l1 x18_2)) l0 (l0.length : Int) x12_1 l1 (l1.length : Int) (wrap64 (x18_2 + 1)) ((rd_T26 l0 x12_1).f0) ((rd_T26 l0 x12_1).f1) ((rd_T26 l0 x12_1).f2) ((rd_T26 l0 x12_1).f3) ((rd_T26 l0 x12_1).f4)) = some r := by rw [if_neg (show ¬ (false = true) by decide)] at H; exact H
                        clear H
                        have H := H1
                        clear H1
                        have H' := Aside0.mk H
                        clear H
                        have p107 : 0 ≤ (x18_2 : Int) := of_decide_eq_true (by first | (with_reducible assumption) | assumption)
                        have q107 : x18_2 < (l1.length : Int) := of_decide_eq_true (by first | (with_reducible assumption) | assumption)
                        obtain ⟨ad107, e107, hx107_0⟩ := Kd.at_int HR1.out x18_2 p107 q107
                        cases e107
                        replace hx107_0 := (HB.out.cell (World.block_lt_of_cell? w _ hx107_0)).trans hx107_0
                        replace p107 := eq_true p107
                        replace q107 := eq_true q107
                        have hcz12_0 : wr.cell? ⟨gb106, 0, none⟩ = some (.int .i64 ((rd_T26 l0 x12_1).f0)) := (blk_cell BK106.out 0).trans rfl
                        have hcz12_1 : wr.cell? ⟨gb106, 1, none⟩ = some (.string ((rd_T26 l0 x12_1).f1)) := (blk_cell BK106.out 1).trans rfl
                        have hcz12_2 : wr.cell? ⟨gb106, 2, none⟩ = some (.int .i64 ((rd_T26 l0 x12_1).f2)) := (blk_cell BK106.out 2).trans rfl
                        have hcz12_3 : wr.cell? ⟨gb106, 3, none⟩ = some (.int .i64 ((rd_T26 l0 x12_1).f3)) := (blk_cell BK106.out 3).trans rfl
                        have hcz12_4 : wr.cell? ⟨gb106, 4, none⟩ = some (.int .i64 ((rd_T26 l0 x12_1).f4)) := (blk_cell BK106.out 4).trans rfl
                        have hfz12_0 := blk_frozen BK106.out 0
                        have hfz12_1 := blk_frozen BK106.out 1
                        have hfz12_2 := blk_frozen BK106.out 2
                        have hfz12_3 := blk_frozen BK106.out 3
                        have hfz12_4 := blk_frozen BK106.out 4
                        go_wp2
                        go_roundg k2
                        case measure => have := HK1.out; have := HK2.out; omega
                        case rel => exact ⟨((((rd_T26 l0 x12_1).f0) == (rd l1 x18_2))), (wrap64 (x18_2 + 1)), (by first | rfl | (simp; done) | (simp [*]; done)), (by first | rfl | (simp; done) | (simp [*]; done)), H', ⟨by have := HK1.out; have := HK2.out; omega⟩, ⟨by (with_reducible repeat (first | refine blk_drewN ?_ _ | refine blk_drew ?_ | refine blk_alloc ?_ _)); exact BK106.out⟩, ⟨by repeat (first | (with_reducible first | exact HB.out | apply below_alloc | apply pw_below_drewN | apply below_drew1 | refine below_set ?_ GE106.out) | exact HB.out)⟩⟩
                    · rw [if_neg c10] at H
                      exact absurd H (by simp)
                  · rw [if_neg c9] at H
                    exact absurd H (by simp)
                · rw [if_neg c8] at H
                  have c8b0 : decide (x18_2 < (l1.length : Int)) = false := decide_eq_false c8
                  clear c8
                  by_cases c13 : x7_2 = true
                  · subst c13
                    have H1 : (if (((rd_T26 l0 x12_1).f1).size : Int) > 20 then (some false) else (if ((rd_T26 l0 x12_1).f2) < (-1000000) then (some false) else (if ((rd_T26 l0 x12_1).f2) > 1000000 then (some false) else (if ((rd_T26 l0 x12_1).f3) < (-1000000) then (some false) else (if ((rd_T26 l0 x12_1).f3) > 1000000 then (some false) else (if ((rd_T26 l0 x12_1).f4) < ((rd_T26 l0 x12_1).f3) then (some false) else (if ((rd_T26 l0 x12_1).f4) > 1000000 then (some false) else (laws_areSteps.l0 k2 l0 l1 l0 (l0.length : Int) (wrap64 (x12_1 + 1)))))))))) = some r := by rw [if_pos rfl] at H; exact H
                    clear H
                    have H := H1
                    clear H1
                    by_cases c14 : (((rd_T26 l0 x12_1).f1).size : Int) > 20
                    · rw [if_pos c14] at H
                      have c14b0 : decide (20 < (((rd_T26 l0 x12_1).f1).size : Int)) = true := decide_eq_true c14
                      have c14b1 : decide (20 < ((rd_T26 l0 x12_1).f1).size) = true := decide_eq_true (by omega)
                      clear c14
                      obtain rfl := Option.some.inj H
                      have hcz15_0 : wr.cell? ⟨gb106, 0, none⟩ = some (.int .i64 ((rd_T26 l0 x12_1).f0)) := (blk_cell BK106.out 0).trans rfl
                      have hcz15_1 : wr.cell? ⟨gb106, 1, none⟩ = some (.string ((rd_T26 l0 x12_1).f1)) := (blk_cell BK106.out 1).trans rfl
                      have hcz15_2 : wr.cell? ⟨gb106, 2, none⟩ = some (.int .i64 ((rd_T26 l0 x12_1).f2)) := (blk_cell BK106.out 2).trans rfl
                      have hcz15_3 : wr.cell? ⟨gb106, 3, none⟩ = some (.int .i64 ((rd_T26 l0 x12_1).f3)) := (blk_cell BK106.out 3).trans rfl
                      have hcz15_4 : wr.cell? ⟨gb106, 4, none⟩ = some (.int .i64 ((rd_T26 l0 x12_1).f4)) := (blk_cell BK106.out 4).trans rfl
                      have hfz15_0 := blk_frozen BK106.out 0
                      have hfz15_1 := blk_frozen BK106.out 1
                      have hfz15_2 := blk_frozen BK106.out 2
                      have hfz15_3 := blk_frozen BK106.out 3
                      have hfz15_4 := blk_frozen BK106.out 4
                      go_wp2
                      go_ret
                      exact ⟨by first | rfl | (simp [errW_none, errW_some] <;> rfl) | (simp [*, errW_none, errW_some] <;> rfl), by repeat (first | (with_reducible first | exact HB.out | apply below_alloc | apply pw_below_drewN | apply below_drew1 | refine below_set ?_ GE106.out) | exact HB.out)⟩
                    · rw [if_neg c14] at H
                      have c14b0 : decide (20 < (((rd_T26 l0 x12_1).f1).size : Int)) = false := decide_eq_false c14
                      have c14b1 : decide (20 < ((rd_T26 l0 x12_1).f1).size) = false := decide_eq_false (by omega)
                      clear c14
                      by_cases c16 : ((rd_T26 l0 x12_1).f2) < (-1000000)
                      · rw [if_pos c16] at H
                        have c16b0 : decide (((rd_T26 l0 x12_1).f2) < (-1000000)) = true := decide_eq_true c16
                        clear c16
                        obtain rfl := Option.some.inj H
                        have hcz17_0 : wr.cell? ⟨gb106, 0, none⟩ = some (.int .i64 ((rd_T26 l0 x12_1).f0)) := (blk_cell BK106.out 0).trans rfl
                        have hcz17_1 : wr.cell? ⟨gb106, 1, none⟩ = some (.string ((rd_T26 l0 x12_1).f1)) := (blk_cell BK106.out 1).trans rfl
                        have hcz17_2 : wr.cell? ⟨gb106, 2, none⟩ = some (.int .i64 ((rd_T26 l0 x12_1).f2)) := (blk_cell BK106.out 2).trans rfl
                        have hcz17_3 : wr.cell? ⟨gb106, 3, none⟩ = some (.int .i64 ((rd_T26 l0 x12_1).f3)) := (blk_cell BK106.out 3).trans rfl
                        have hcz17_4 : wr.cell? ⟨gb106, 4, none⟩ = some (.int .i64 ((rd_T26 l0 x12_1).f4)) := (blk_cell BK106.out 4).trans rfl
                        have hfz17_0 := blk_frozen BK106.out 0
                        have hfz17_1 := blk_frozen BK106.out 1
                        have hfz17_2 := blk_frozen BK106.out 2
                        have hfz17_3 := blk_frozen BK106.out 3
                        have hfz17_4 := blk_frozen BK106.out 4
                        go_wp2
                        go_ret
                        exact ⟨by first | rfl | (simp [errW_none, errW_some] <;> rfl) | (simp [*, errW_none, errW_some] <;> rfl), by repeat (first | (with_reducible first | exact HB.out | apply below_alloc | apply pw_below_drewN | apply below_drew1 | refine below_set ?_ GE106.out) | exact HB.out)⟩
                      · rw [if_neg c16] at H
                        have c16b0 : decide (((rd_T26 l0 x12_1).f2) < (-1000000)) = false := decide_eq_false c16
                        clear c16
                        by_cases c18 : ((rd_T26 l0 x12_1).f2) > 1000000
                        · rw [if_pos c18] at H
                          have c18b0 : decide (1000000 < ((rd_T26 l0 x12_1).f2)) = true := decide_eq_true c18
                          clear c18
                          obtain rfl := Option.some.inj H
                          have hcz19_0 : wr.cell? ⟨gb106, 0, none⟩ = some (.int .i64 ((rd_T26 l0 x12_1).f0)) := (blk_cell BK106.out 0).trans rfl
                          have hcz19_1 : wr.cell? ⟨gb106, 1, none⟩ = some (.string ((rd_T26 l0 x12_1).f1)) := (blk_cell BK106.out 1).trans rfl
                          have hcz19_2 : wr.cell? ⟨gb106, 2, none⟩ = some (.int .i64 ((rd_T26 l0 x12_1).f2)) := (blk_cell BK106.out 2).trans rfl
                          have hcz19_3 : wr.cell? ⟨gb106, 3, none⟩ = some (.int .i64 ((rd_T26 l0 x12_1).f3)) := (blk_cell BK106.out 3).trans rfl
                          have hcz19_4 : wr.cell? ⟨gb106, 4, none⟩ = some (.int .i64 ((rd_T26 l0 x12_1).f4)) := (blk_cell BK106.out 4).trans rfl
                          have hfz19_0 := blk_frozen BK106.out 0
                          have hfz19_1 := blk_frozen BK106.out 1
                          have hfz19_2 := blk_frozen BK106.out 2
                          have hfz19_3 := blk_frozen BK106.out 3
                          have hfz19_4 := blk_frozen BK106.out 4
                          go_wp2
                          go_ret
                          exact ⟨by first | rfl | (simp [errW_none, errW_some] <;> rfl) | (simp [*, errW_none, errW_some] <;> rfl), by repeat (first | (with_reducible first | exact HB.out | apply below_alloc | apply pw_below_drewN | apply below_drew1 | refine below_set ?_ GE106.out) | exact HB.out)⟩
                        · rw [if_neg c18] at H
                          have c18b0 : decide (1000000 < ((rd_T26 l0 x12_1).f2)) = false := decide_eq_false c18
                          clear c18
                          by_cases c20 : ((rd_T26 l0 x12_1).f3) < (-1000000)
                          · rw [if_pos c20] at H
                            have c20b0 : decide (((rd_T26 l0 x12_1).f3) < (-1000000)) = true := decide_eq_true c20
                            clear c20
                            obtain rfl := Option.some.inj H
                            have hcz21_0 : wr.cell? ⟨gb106, 0, none⟩ = some (.int .i64 ((rd_T26 l0 x12_1).f0)) := (blk_cell BK106.out 0).trans rfl
                            have hcz21_1 : wr.cell? ⟨gb106, 1, none⟩ = some (.string ((rd_T26 l0 x12_1).f1)) := (blk_cell BK106.out 1).trans rfl
                            have hcz21_2 : wr.cell? ⟨gb106, 2, none⟩ = some (.int .i64 ((rd_T26 l0 x12_1).f2)) := (blk_cell BK106.out 2).trans rfl
                            have hcz21_3 : wr.cell? ⟨gb106, 3, none⟩ = some (.int .i64 ((rd_T26 l0 x12_1).f3)) := (blk_cell BK106.out 3).trans rfl
                            have hcz21_4 : wr.cell? ⟨gb106, 4, none⟩ = some (.int .i64 ((rd_T26 l0 x12_1).f4)) := (blk_cell BK106.out 4).trans rfl
                            have hfz21_0 := blk_frozen BK106.out 0
                            have hfz21_1 := blk_frozen BK106.out 1
                            have hfz21_2 := blk_frozen BK106.out 2
                            have hfz21_3 := blk_frozen BK106.out 3
                            have hfz21_4 := blk_frozen BK106.out 4
                            go_wp2
                            go_ret
                            exact ⟨by first | rfl | (simp [errW_none, errW_some] <;> rfl) | (simp [*, errW_none, errW_some] <;> rfl), by repeat (first | (with_reducible first | exact HB.out | apply below_alloc | apply pw_below_drewN | apply below_drew1 | refine below_set ?_ GE106.out) | exact HB.out)⟩
                          · rw [if_neg c20] at H
                            have c20b0 : decide (((rd_T26 l0 x12_1).f3) < (-1000000)) = false := decide_eq_false c20
                            clear c20
                            by_cases c22 : ((rd_T26 l0 x12_1).f3) > 1000000
                            · rw [if_pos c22] at H
                              have c22b0 : decide (1000000 < ((rd_T26 l0 x12_1).f3)) = true := decide_eq_true c22
                              clear c22
                              obtain rfl := Option.some.inj H
                              have hcz23_0 : wr.cell? ⟨gb106, 0, none⟩ = some (.int .i64 ((rd_T26 l0 x12_1).f0)) := (blk_cell BK106.out 0).trans rfl
                              have hcz23_1 : wr.cell? ⟨gb106, 1, none⟩ = some (.string ((rd_T26 l0 x12_1).f1)) := (blk_cell BK106.out 1).trans rfl
                              have hcz23_2 : wr.cell? ⟨gb106, 2, none⟩ = some (.int .i64 ((rd_T26 l0 x12_1).f2)) := (blk_cell BK106.out 2).trans rfl
                              have hcz23_3 : wr.cell? ⟨gb106, 3, none⟩ = some (.int .i64 ((rd_T26 l0 x12_1).f3)) := (blk_cell BK106.out 3).trans rfl
                              have hcz23_4 : wr.cell? ⟨gb106, 4, none⟩ = some (.int .i64 ((rd_T26 l0 x12_1).f4)) := (blk_cell BK106.out 4).trans rfl
                              have hfz23_0 := blk_frozen BK106.out 0
                              have hfz23_1 := blk_frozen BK106.out 1
                              have hfz23_2 := blk_frozen BK106.out 2
                              have hfz23_3 := blk_frozen BK106.out 3
                              have hfz23_4 := blk_frozen BK106.out 4
                              go_wp2
                              go_ret
                              exact ⟨by first | rfl | (simp [errW_none, errW_some] <;> rfl) | (simp [*, errW_none, errW_some] <;> rfl), by repeat (first | (with_reducible first | exact HB.out | apply below_alloc | apply pw_below_drewN | apply below_drew1 | refine below_set ?_ GE106.out) | exact HB.out)⟩
                            · rw [if_neg c22] at H
                              have c22b0 : decide (1000000 < ((rd_T26 l0 x12_1).f3)) = false := decide_eq_false c22
                              clear c22
                              by_cases c24 : ((rd_T26 l0 x12_1).f4) < ((rd_T26 l0 x12_1).f3)
                              · rw [if_pos c24] at H
                                have c24b0 : decide (((rd_T26 l0 x12_1).f4) < ((rd_T26 l0 x12_1).f3)) = true := decide_eq_true c24
                                clear c24
                                obtain rfl := Option.some.inj H
                                have hcz25_0 : wr.cell? ⟨gb106, 0, none⟩ = some (.int .i64 ((rd_T26 l0 x12_1).f0)) := (blk_cell BK106.out 0).trans rfl
                                have hcz25_1 : wr.cell? ⟨gb106, 1, none⟩ = some (.string ((rd_T26 l0 x12_1).f1)) := (blk_cell BK106.out 1).trans rfl
                                have hcz25_2 : wr.cell? ⟨gb106, 2, none⟩ = some (.int .i64 ((rd_T26 l0 x12_1).f2)) := (blk_cell BK106.out 2).trans rfl
                                have hcz25_3 : wr.cell? ⟨gb106, 3, none⟩ = some (.int .i64 ((rd_T26 l0 x12_1).f3)) := (blk_cell BK106.out 3).trans rfl
                                have hcz25_4 : wr.cell? ⟨gb106, 4, none⟩ = some (.int .i64 ((rd_T26 l0 x12_1).f4)) := (blk_cell BK106.out 4).trans rfl
                                have hfz25_0 := blk_frozen BK106.out 0
                                have hfz25_1 := blk_frozen BK106.out 1
                                have hfz25_2 := blk_frozen BK106.out 2
                                have hfz25_3 := blk_frozen BK106.out 3
                                have hfz25_4 := blk_frozen BK106.out 4
                                go_wp2
                                go_ret
                                exact ⟨by first | rfl | (simp [errW_none, errW_some] <;> rfl) | (simp [*, errW_none, errW_some] <;> rfl), by repeat (first | (with_reducible first | exact HB.out | apply below_alloc | apply pw_below_drewN | apply below_drew1 | refine below_set ?_ GE106.out) | exact HB.out)⟩
                              · rw [if_neg c24] at H
                                have c24b0 : decide (((rd_T26 l0 x12_1).f4) < ((rd_T26 l0 x12_1).f3)) = false := decide_eq_false c24
                                clear c24
                                by_cases c26 : ((rd_T26 l0 x12_1).f4) > 1000000
                                · rw [if_pos c26] at H
                                  have c26b0 : decide (1000000 < ((rd_T26 l0 x12_1).f4)) = true := decide_eq_true c26
                                  clear c26
                                  obtain rfl := Option.some.inj H
                                  have hcz27_0 : wr.cell? ⟨gb106, 0, none⟩ = some (.int .i64 ((rd_T26 l0 x12_1).f0)) := (blk_cell BK106.out 0).trans rfl
                                  have hcz27_1 : wr.cell? ⟨gb106, 1, none⟩ = some (.string ((rd_T26 l0 x12_1).f1)) := (blk_cell BK106.out 1).trans rfl
                                  have hcz27_2 : wr.cell? ⟨gb106, 2, none⟩ = some (.int .i64 ((rd_T26 l0 x12_1).f2)) := (blk_cell BK106.out 2).trans rfl
                                  have hcz27_3 : wr.cell? ⟨gb106, 3, none⟩ = some (.int .i64 ((rd_T26 l0 x12_1).f3)) := (blk_cell BK106.out 3).trans rfl
                                  have hcz27_4 : wr.cell? ⟨gb106, 4, none⟩ = some (.int .i64 ((rd_T26 l0 x12_1).f4)) := (blk_cell BK106.out 4).trans rfl
                                  have hfz27_0 := blk_frozen BK106.out 0
                                  have hfz27_1 := blk_frozen BK106.out 1
                                  have hfz27_2 := blk_frozen BK106.out 2
                                  have hfz27_3 := blk_frozen BK106.out 3
                                  have hfz27_4 := blk_frozen BK106.out 4
                                  go_wp2
                                  go_ret
                                  exact ⟨by first | rfl | (simp [errW_none, errW_some] <;> rfl) | (simp [*, errW_none, errW_some] <;> rfl), by repeat (first | (with_reducible first | exact HB.out | apply below_alloc | apply pw_below_drewN | apply below_drew1 | refine below_set ?_ GE106.out) | exact HB.out)⟩
                                · rw [if_neg c26] at H
                                  have c26b0 : decide (1000000 < ((rd_T26 l0 x12_1).f4)) = false := decide_eq_false c26
                                  clear c26
                                  have H' := Aside0.mk H
                                  clear H
                                  have hcz28_0 : wr.cell? ⟨gb106, 0, none⟩ = some (.int .i64 ((rd_T26 l0 x12_1).f0)) := (blk_cell BK106.out 0).trans rfl
                                  have hcz28_1 : wr.cell? ⟨gb106, 1, none⟩ = some (.string ((rd_T26 l0 x12_1).f1)) := (blk_cell BK106.out 1).trans rfl
                                  have hcz28_2 : wr.cell? ⟨gb106, 2, none⟩ = some (.int .i64 ((rd_T26 l0 x12_1).f2)) := (blk_cell BK106.out 2).trans rfl
                                  have hcz28_3 : wr.cell? ⟨gb106, 3, none⟩ = some (.int .i64 ((rd_T26 l0 x12_1).f3)) := (blk_cell BK106.out 3).trans rfl
                                  have hcz28_4 : wr.cell? ⟨gb106, 4, none⟩ = some (.int .i64 ((rd_T26 l0 x12_1).f4)) := (blk_cell BK106.out 4).trans rfl
                                  have hfz28_0 := blk_frozen BK106.out 0
                                  have hfz28_1 := blk_frozen BK106.out 1
                                  have hfz28_2 := blk_frozen BK106.out 2
                                  have hfz28_3 := blk_frozen BK106.out 3
                                  have hfz28_4 := blk_frozen BK106.out 4
                                  go_wp2
                                  go_roundg k2
                                  case measure => have := HK1.out; have := HK2.out; omega
                                  case rel => exact ⟨(wrap64 (x12_1 + 1)), (by first | rfl | (simp; done) | (simp [*]; done)), H', ⟨by have := HK1.out; have := HK2.out; omega⟩, ⟨by repeat (first | (with_reducible first | exact HB.out | apply below_alloc | apply pw_below_drewN | apply below_drew1 | refine below_set ?_ GE106.out) | exact HB.out)⟩⟩
                  · replace c13 := Bool.eq_false_iff.mpr c13
                    subst c13
                    have H1 : (some false) = some r := by rw [if_neg (show ¬ (false = true) by decide)] at H; exact H
                    clear H
                    have H := H1
                    clear H1
                    obtain rfl := Option.some.inj H
                    go_wp2
                    go_ret
                    exact ⟨by first | rfl | (simp [errW_none, errW_some] <;> rfl) | (simp [*, errW_none, errW_some] <;> rfl), by repeat (first | (with_reducible first | exact HB.out | apply below_alloc | apply pw_below_drewN | apply below_drew1 | refine below_set ?_ GE106.out) | exact HB.out)⟩
          · rw [if_neg c5] at H
            exact absurd H (by simp)
        · rw [if_neg c4] at H
          exact absurd H (by simp)
      · rw [if_neg c3] at H
        have c3b0 : decide (x12_1 < (l0.length : Int)) = false := decide_eq_false c3
        clear c3
        obtain rfl := Option.some.inj H
        go_wp2
        go_ret
        exact ⟨by first | rfl | (simp [errW_none, errW_some] <;> rfl) | (simp [*, errW_none, errW_some] <;> rfl), by repeat (first | (with_reducible first | exact HB.out | apply below_alloc | apply pw_below_drewN | apply below_drew1) | exact HB.out)⟩

/-! ### state_MakeValueState_int64: function 43 -/
def state_MakeValueState_int64.f (a0 : ByteArray) : Option (ByteArray) := some a0
set_option maxHeartbeats 8000000 in
set_option maxRecDepth 100000 in
theorem state_MakeValueState_int64.calls (a0 : ByteArray) (r : ByteArray) (w : World) (h : state_MakeValueState_int64.f a0 = some r) :
    Calls Try.prog 43 #[.string a0] w fun e w' => e = .returned (.agg #[.string r]) ∧ Below w.heap.size w w' := by
  have hu101 := Try.underlying101
  have HB := Aside0.mk (Below.refl w.heap.size w)
  have H : (some a0) = some r := h
  clear h
  obtain rfl := Option.some.inj H
  go_enter Try.func43, Try.ntmps43
  go_wp2_with (first | ((with_reducible refine gate_dst (N := 2) rfl ?_); refine box_event ?hg (N := 2) ?hd (cs := #[.string (⟨#[]⟩ : ByteArray)]) (t := 101) ?hr ?_; (case hd => rfl); (case hg => rfl); (case hr => first | (go_simp; done) | (go_simp; rfl)); intro gb108 hg w2 hbox hb; have n0_ := Aside0.mk (below_step (by repeat (first | (with_reducible first | exact HB.out | apply below_alloc | apply pw_below_drewN | apply below_drew1) | exact HB.out)) hb); have n1_ := Aside0.mk (hbox); have n2_ := Aside0.mk ((by rw [hg]; exact (below_size (by repeat (first | (with_reducible first | exact HB.out | apply below_alloc | apply pw_below_drewN | apply below_drew1) | exact HB.out))) : w.heap.size ≤ gb108)); have n3_ := Aside0.mk ((by rw [hg]; exact (below_size (by repeat (first | (with_reducible first | exact HB.out | apply below_alloc | apply pw_below_drewN | apply below_drew1) | exact HB.out))) : w.heap.size ≤ gb108)); clear HB; have HB := n0_; have BK108 := n1_; have GW108 := n2_; have GE108 := n3_; clear n0_ n1_ n2_ n3_; clear hb hbox hg; have hcz3_0 : w2.cell? ⟨gb108, 0, none⟩ = some (.string (⟨#[]⟩ : ByteArray)) := (blk_cell BK108.out 0).trans rfl; have hfz3_0 := blk_frozen BK108.out 0))
  refine bodyPost_ret (results_cell_row rfl _ _ gb108 101 #[.string a0] (0, 0) _ rfl (by (with_reducible repeat (first | refine blk_drewN ?_ _ | refine blk_drew ?_ | refine blk_alloc ?_ _)); refine blk_put (cs := #[.string (⟨#[]⟩ : ByteArray)]) ?_ 0 _ rfl; (with_reducible repeat (first | refine blk_drewN ?_ _ | refine blk_drew ?_ | refine blk_alloc ?_ _)); exact BK108.out) Try.underlying101 rfl (by kernel_rfl)) rfl ?_
  exact ⟨by first | rfl | (simp [errW_none, errW_some] <;> rfl) | (simp [*, errW_none, errW_some] <;> rfl), by repeat (first | (with_reducible first | exact HB.out | apply below_alloc | apply pw_below_drewN | apply below_drew1 | refine below_set ?_ GE108.out) | exact HB.out)⟩

-- NOT PRINTED: function 44 (state_Value_int64_Write)

-- NOT PRINTED: function 45 (state_Value_int64_Clear)

-- NOT PRINTED: function 46 (state_Value_int64_Read)

-- NOT PRINTED: function 14 (impl_ValueRun)

/-! ### spec_StateSame: function 17 -/
def spec_StateSame.l0 : Nat → List Int → List Int → Int → Int → Option (Bool)
  | 0, _, _, _, _ => none
  | k + 1, x0, x1, x12, x13 => if x13 < x12 then (if 0 ≤ x13 then (if x13 < (x0.length : Int) then (if x13 < (x1.length : Int) then (if (rd x0 x13) = (rd x1 x13) then (spec_StateSame.l0 k x0 x1 x12 (wrap64 (x13 + 1))) else (some false)) else (none)) else (none)) else (none)) else (some true)
def spec_StateSame.f (k : Nat) (l0 : List Int) (l1 : List Int) : Option (Bool) := if (l0.length : Int) = (l1.length : Int) then (spec_StateSame.l0 k l0 l1 (l0.length : Int) 0) else (some false)
theorem spec_StateSame.mono_l : ∀ k, (∀ y0 y1 y2 y3, LeO (spec_StateSame.l0 k y0 y1 y2 y3) (spec_StateSame.l0 (k + 1) y0 y1 y2 y3))
  | 0 => fun _ _ _ _ r h => by simp [spec_StateSame.l0] at h
  | k + 1 => by
    have ih0 := spec_StateSame.mono_l k
    · intro y0 y1 y2 y3
      unfold spec_StateSame.l0
      repeat' first
      | (with_reducible exact ih0 _ _ _ _)
      | (with_reducible exact LeO.refl _)
      | (with_reducible exact LeO.none _)
      | (with_reducible refine LeO.ite ?_ ?_)
      | (with_reducible refine LeO.bind ?_ (fun _ => ?_))
      | exact ih0 _ _ _ _
      | exact LeO.none _
      | refine LeO.ite ?_ ?_
      | refine LeO.bind ?_ (fun _ => ?_)
theorem spec_StateSame.mono : ∀ a0 a1 k, LeO (spec_StateSame.f k a0 a1) (spec_StateSame.f (k + 1) a0 a1) := by
  intro a0 a1 k
  have ih0 := spec_StateSame.mono_l k
  unfold spec_StateSame.f
  repeat' first
      | (with_reducible exact ih0 _ _ _ _)
      | (with_reducible exact LeO.refl _)
      | (with_reducible exact LeO.none _)
      | (with_reducible refine LeO.ite ?_ ?_)
      | (with_reducible refine LeO.bind ?_ (fun _ => ?_))
      | exact ih0 _ _ _ _
      | exact LeO.none _
      | refine LeO.ite ?_ ?_
      | refine LeO.bind ?_ (fun _ => ?_)
set_option maxHeartbeats 8000000 in
set_option maxRecDepth 100000 in
theorem spec_StateSame.calls (k : Nat) (A0 : Option Addr) (c0 : Nat) (l0 : List Int) (A1 : Option Addr) (c1 : Nat) (l1 : List Int) (r : Bool) (w : World) (hr0 : Kd.C (Kd.int .i64) w A0 l0.length l0) (hc0 : l0.length ≤ c0) (hr1 : Kd.C (Kd.int .i64) w A1 l1.length l1) (hc1 : l1.length ≤ c1) (h : spec_StateSame.f k l0 l1 = some r) :
    Calls Try.prog 17 #[.slice A0 l0.length c0, .slice A1 l1.length c1] w fun e w' => e = .returned (.bool r) ∧ Drawn0 w w' := by
  have HR0 := Aside0.mk hr0
  have HC0 := Aside0.mk hc0
  clear hr0 hc0
  have HR1 := Aside0.mk hr1
  have HC1 := Aside0.mk hc1
  clear hr1 hc1
  have H : (if (l0.length : Int) = (l1.length : Int) then (spec_StateSame.l0 k l0 l1 (l0.length : Int) 0) else (some false)) = some r := h
  clear h
  by_cases c3 : (l0.length : Int) = (l1.length : Int)
  · rw [if_pos c3] at H
    have c3b0 : ((l0.length : Int) == (l1.length : Int)) = true := beq_iff_eq.mpr c3
    have c3b1 : ((l0.length : Int) != (l1.length : Int)) = false := bne_eq_false_iff_eq.mpr c3
    have c3b2 : (l0.length == l1.length) = true := by first | simpa using c3 | (simp at c3 ⊢; omega)
    clear c3
    have H' := Aside0.mk H
    clear H
    go_enter Try.func17, Try.ntmps17
    go_wp2
    repeat (go_quiet (fail); try go_wp2)
    go_loopg [13] k (fun kq v13 w' => ∃ (x13_1 : Int), v13 = .int .i64 x13_1 ∧ Aside0 (spec_StateSame.l0 kq l0 l1 (l0.length : Int) x13_1 = some r) ∧ Aside0 (kq ≤ k) ∧ Drawn0 w w')
    case atStart => exact ⟨(0), (by first | rfl | (simp; done) | (simp [*]; done)), H', ⟨Nat.le_refl _⟩, by repeat (first | exact Drawn0.refl _ | apply Drawn0.step)⟩
    case round =>
      clear H'
      try clear c1
      try clear p2
      try clear c3
      try clear c3b0
      try clear c3b1
      try clear c3b2
      obtain ⟨x13_1, rfl, HA, HK1, ⟨m1, rfl⟩⟩ := hrel
      cases gk with
      | zero => exact absurd HA.out (by simp [spec_StateSame.l0])
      | succ k1 =>
        have H := HA.out
        clear HA
        simp only [spec_StateSame.l0] at H
        by_cases c4 : x13_1 < (l0.length : Int)
        · rw [if_pos c4] at H
          have c4b0 : decide (x13_1 < (l0.length : Int)) = true := decide_eq_true c4
          clear c4
          by_cases c5 : 0 ≤ x13_1
          · rw [if_pos c5] at H
            have c5b0 : decide (0 ≤ x13_1) = true := decide_eq_true c5
            clear c5
            by_cases c6 : x13_1 < (l0.length : Int)
            · rw [if_pos c6] at H
              have c6b0 : decide (x13_1 < (l0.length : Int)) = true := decide_eq_true c6
              clear c6
              by_cases c7 : x13_1 < (l1.length : Int)
              · rw [if_pos c7] at H
                have c7b0 : decide (x13_1 < (l1.length : Int)) = true := decide_eq_true c7
                clear c7
                by_cases c8 : (rd l0 x13_1) = (rd l1 x13_1)
                · rw [if_pos c8] at H
                  have c8b0 : ((rd l0 x13_1) == (rd l1 x13_1)) = true := beq_iff_eq.mpr c8
                  have c8b1 : ((rd l0 x13_1) != (rd l1 x13_1)) = false := bne_eq_false_iff_eq.mpr c8
                  clear c8
                  have H' := Aside0.mk H
                  clear H
                  have p109 : 0 ≤ (x13_1 : Int) := of_decide_eq_true (by first | (with_reducible assumption) | assumption)
                  have q109 : x13_1 < (l0.length : Int) := of_decide_eq_true (by first | (with_reducible assumption) | assumption)
                  obtain ⟨ad109, e109, hx109_0⟩ := Kd.at_int HR0.out x13_1 p109 q109
                  cases e109
                  replace p109 := eq_true p109
                  replace q109 := eq_true q109
                  have p110 : 0 ≤ (x13_1 : Int) := of_decide_eq_true (by first | (with_reducible assumption) | assumption)
                  have q110 : x13_1 < (l1.length : Int) := of_decide_eq_true (by first | (with_reducible assumption) | assumption)
                  obtain ⟨ad110, e110, hx110_0⟩ := Kd.at_int HR1.out x13_1 p110 q110
                  cases e110
                  replace p110 := eq_true p110
                  replace q110 := eq_true q110
                  go_wp2
                  repeat (go_quiet (fail); try go_wp2)
                  go_roundg k1
                  case measure => have := HK1.out; omega
                  case rel => exact ⟨(wrap64 (x13_1 + 1)), (by first | rfl | (simp; done) | (simp [*]; done)), H', ⟨by have := HK1.out; omega⟩, by repeat (first | exact Drawn0.refl _ | apply Drawn0.step)⟩
                · rw [if_neg c8] at H
                  have c8b0 : ((rd l0 x13_1) == (rd l1 x13_1)) = false := beq_eq_false_iff_ne.mpr c8
                  have c8b1 : ((rd l0 x13_1) != (rd l1 x13_1)) = true := bne_iff_ne.mpr c8
                  obtain rfl := Option.some.inj H
                  have p109 : 0 ≤ (x13_1 : Int) := of_decide_eq_true (by first | (with_reducible assumption) | assumption)
                  have q109 : x13_1 < (l0.length : Int) := of_decide_eq_true (by first | (with_reducible assumption) | assumption)
                  obtain ⟨ad109, e109, hx109_0⟩ := Kd.at_int HR0.out x13_1 p109 q109
                  cases e109
                  replace p109 := eq_true p109
                  replace q109 := eq_true q109
                  have p110 : 0 ≤ (x13_1 : Int) := of_decide_eq_true (by first | (with_reducible assumption) | assumption)
                  have q110 : x13_1 < (l1.length : Int) := of_decide_eq_true (by first | (with_reducible assumption) | assumption)
                  obtain ⟨ad110, e110, hx110_0⟩ := Kd.at_int HR1.out x13_1 p110 q110
                  cases e110
                  replace p110 := eq_true p110
                  replace q110 := eq_true q110
                  go_wp2
                  repeat (go_quiet (fail); try go_wp2)
                  go_ret
                  exact ⟨by first | rfl | (simp; done) | (simp [*]; done), by repeat (first | exact Drawn0.refl _ | apply Drawn0.step)⟩
              · rw [if_neg c7] at H
                exact absurd H (by simp)
            · rw [if_neg c6] at H
              exact absurd H (by simp)
          · rw [if_neg c5] at H
            exact absurd H (by simp)
        · rw [if_neg c4] at H
          have c4b0 : decide (x13_1 < (l0.length : Int)) = false := decide_eq_false c4
          clear c4
          obtain rfl := Option.some.inj H
          go_wp2
          repeat (go_quiet (fail); try go_wp2)
          go_ret
          exact ⟨by first | rfl | (simp; done) | (simp [*]; done), by repeat (first | exact Drawn0.refl _ | apply Drawn0.step)⟩
  · rw [if_neg c3] at H
    have c3b0 : ((l0.length : Int) == (l1.length : Int)) = false := beq_eq_false_iff_ne.mpr c3
    have c3b1 : ((l0.length : Int) != (l1.length : Int)) = true := bne_iff_ne.mpr c3
    have c3b2 : (l0.length == l1.length) = false := by first | simpa using c3 | (simp at c3 ⊢; omega)
    obtain rfl := Option.some.inj H
    go_enter Try.func17, Try.ntmps17
    go_wp2
    repeat (go_quiet (fail); try go_wp2)
    go_ret
    exact ⟨by first | rfl | (simp; done) | (simp [*]; done), by repeat (first | exact Drawn0.refl _ | apply Drawn0.step)⟩

-- NOT PRINTED: function 13 (laws_stateAwake)

-- NOT PRINTED: function 15 (laws_answers_next)

/-- A state of type 32 at block g of W; what its slices lead to came in by w0. -/
def IsS32 (w0 W : World) (g : Nat) (f0 : List (S36)) (f1 : Bool) : Prop := ∃ A0 c0, W.heap[g]? = some (.cells #[.slice A0 f0.length c0, .bool f1] 32 (0, 0)) ∧ w0.heap.size ≤ g ∧ Kd.C k36 w0 A0 f0.length f0
theorem IsS32.grown {w0 W : World} {g : Nat} {f0 : List (S36)} {f1 : Bool} {W1 : World} {row : Option Nat} (h : IsS32 w0 W g f0 f1) (hw : W.grownBy W1 row) (hne : some g ≠ row) : IsS32 w0 W1 g f0 f1 := by
  obtain ⟨A0, c0, hb, hg, hr0⟩ := h
  exact ⟨A0, c0, blk_grown hb hw hne, hg, hr0⟩
theorem IsS32.own_neN {w0 W : World} {g : Nat} {f0 : List (S36)} {f1 : Bool} {α : Type} {d : Kd α} {e : Nat} {base : Nat} {ok : Nat → Prop} {v : Value} {xs : List α} (h : IsS32 w0 W g f0 f1) (ho : Kd.N d e W base ok v xs) (ht : e ≠ 32) : some g ≠ v.ownBlock := by
  obtain ⟨A0, c0, hb, hg, hr0⟩ := h
  exact Kd.N_ne ho hb ht
theorem IsS32.fresh {w0 W : World} {g : Nat} {f0 : List (S36)} {f1 : Bool} (h : IsS32 w0 W g f0 f1) : ∀ k, W.heap.size ≤ k → k ≠ g := by
  obtain ⟨A0, c0, hb, hg, hr0⟩ := h
  exact Kd.freshB hb
theorem IsS32.kept {w0 W : World} {g : Nat} {f0 : List (S36)} {f1 : Bool} {W1 : World} {S : Nat → Prop} (h : IsS32 w0 W g f0 f1) (hk : Kept W W1 S) (hne : ¬ S g) : IsS32 w0 W1 g f0 f1 := by
  obtain ⟨A0, c0, hb, hg, hr0⟩ := h
  exact ⟨A0, c0, blk_kept hb hk hne, hg, hr0⟩
theorem IsS32.below {w0 W : World} {g : Nat} {f0 : List (S36)} {f1 : Bool} {W1 : World} (h : IsS32 w0 W g f0 f1) (hw : Below W.heap.size W W1) : IsS32 w0 W1 g f0 f1 := h.grown (grown_of_below hw none) (by simp)
theorem IsS32.alloc {w0 W : World} {g : Nat} {f0 : List (S36)} {f1 : Bool} (h : IsS32 w0 W g f0 f1) (o : Obj) : IsS32 w0 (W.alloc o) g f0 f1 := h.below (below_alloc (Below.refl _ _) o)
theorem IsS32.drewN {w0 W : World} {g : Nat} {f0 : List (S36)} {f1 : Bool} (h : IsS32 w0 W g f0 f1) (m : Nat) : IsS32 w0 (W.drewN m) g f0 f1 := h
theorem IsS32.drew {w0 W : World} {g : Nat} {f0 : List (S36)} {f1 : Bool} (h : IsS32 w0 W g f0 f1) : IsS32 w0 W.drew g f0 f1 := h
theorem IsS32.at_ {w0 W : World} {g : Nat} {f0 : List (S36)} {f1 : Bool} {w' : World} {m : Nat} (hq : W.drewN m = w') (h : IsS32 w0 W g f0 f1) : IsS32 w0 w' g f0 f1 := by subst hq; exact IsS32.drewN h m
theorem IsS32.apart {w0 W : World} {g : Nat} {f0 : List (S36)} {f1 : Bool} {α : Type} {d : Kd α} {e : Nat} {base : Nat} {ok : Nat → Prop} {v : Value} {xs : List α} (h : IsS32 w0 W g f0 f1) (ho : d.R e W base ok v xs) (ht : ∀ q, q ∈ e :: d.E → q ≠ 32) : d.R e W base (fun k => ok k ∧ k ≠ g) v xs := by
  obtain ⟨A0, c0, hb, hg, hr0⟩ := h
  exact Kd.R_types ho hb ht
theorem IsS32.own_ne {w0 W : World} {g : Nat} {f0 : List (S36)} {f1 : Bool} {α : Type} {d : Kd α} {e : Nat} {base : Nat} {ok : Nat → Prop} {v : Value} {xs : List α} (h : IsS32 w0 W g f0 f1) (ho : d.R e W base ok v xs) (ht : e ≠ 32) : some g ≠ v.ownBlock := by
  obtain ⟨A0, c0, hb, hg, hr0⟩ := h
  exact Kd.R_ne ho hb ht
theorem IsS32.apartQ {w0 W : World} {g : Nat} {f0 : List (S36)} {f1 : Bool} {α : Type} {d : Kd α} {e : Nat} {base : Nat} {ok : Nat → Prop} {v : Value} {xs : List α} (h : IsS32 w0 W g f0 f1) (ho : d.Q e W base ok v xs) (ht : ∀ q, q ∈ e :: d.E → q ≠ 32) : d.Q e W base (fun k => ok k ∧ k ≠ g) v xs := by
  obtain ⟨A0, c0, hb, hg, hr0⟩ := h
  exact Kd.Q_types ho hb ht
theorem IsS32.own_neQ {w0 W : World} {g : Nat} {f0 : List (S36)} {f1 : Bool} {α : Type} {d : Kd α} {e : Nat} {base : Nat} {ok : Nat → Prop} {v : Value} {xs : List α} (h : IsS32 w0 W g f0 f1) (ho : d.Q e W base ok v xs) (ht : e ≠ 32) : some g ≠ v.ownBlock := by
  obtain ⟨A0, c0, hb, hg, hr0⟩ := h
  exact Kd.Q_ne ho hb ht
theorem IsS32.apartS {w0 W : World} {g : Nat} {f0 : List (S36)} {f1 : Bool} {α : Type} {d : Kd α} {e : Nat} {base : Nat} {ok : Nat → Prop} {v : Value} {xs : List α} (h : IsS32 w0 W g f0 f1) (ho : d.S e W base ok v xs) (ht : ∀ q, q ∈ e :: d.E → q ≠ 32) : d.S e W base (fun k => ok k ∧ k ≠ g) v xs := by
  obtain ⟨A0, c0, hb, hg, hr0⟩ := h
  exact Kd.S_types ho hb ht
theorem IsS32.own_neS {w0 W : World} {g : Nat} {f0 : List (S36)} {f1 : Bool} {α : Type} {d : Kd α} {e : Nat} {base : Nat} {ok : Nat → Prop} {v : Value} {xs : List α} (h : IsS32 w0 W g f0 f1) (ho : d.S e W base ok v xs) (ht : e ≠ 32) : some g ≠ v.ownBlock := by
  obtain ⟨A0, c0, hb, hg, hr0⟩ := h
  exact Kd.S_ne ho hb ht
theorem IsS32.lt {w0 W : World} {g : Nat} {f0 : List (S36)} {f1 : Bool} (h : IsS32 w0 W g f0 f1) : g < W.heap.size := by
  obtain ⟨A0, c0, hb, hg, hr0⟩ := h
  exact blk_lt hb
theorem IsS32.ge {w0 W : World} {g : Nat} {f0 : List (S36)} {f1 : Bool} (h : IsS32 w0 W g f0 f1) : w0.heap.size ≤ g := by
  obtain ⟨A0, c0, hb, hg, hr0⟩ := h
  exact hg
theorem IsS32.ne_blk {w0 W : World} {g : Nat} {f0 : List (S36)} {f1 : Bool} {a : Nat} {cs : Array Value} {t : TypeId} {fr : Nat × Nat} (h : IsS32 w0 W g f0 f1) (hb2 : W.heap[a]? = some (.cells cs t fr)) (ht : t ≠ 32) : g ≠ a := by
  obtain ⟨A0, c0, hb, hg, hr0⟩ := h
  rintro rfl
  rw [hb] at hb2
  injection hb2 with hb2
  injection hb2 with _ ht2
  exact ht ht2.symm
theorem IsS32.far {w0 W : World} {g : Nat} {f0 : List (S36)} {f1 : Bool} {p : Addr} (h : IsS32 w0 W g f0 f1) (hne : g ≠ p.block) (u : Value) : IsS32 w0 (W.setCell p u) g f0 f1 := by
  obtain ⟨A0, c0, hb, hg, hr0⟩ := h
  exact ⟨A0, c0, blk_far hb hne u, hg, hr0⟩
theorem cellS32_0 {W : World} {g : Nat} {A0 : Option Addr} {c0 : Nat} {f0 : List (S36)} {f1 : Bool} (h : W.heap[g]? = some (.cells #[.slice A0 f0.length c0, .bool f1] 32 (0, 0))) : W.cell? ⟨g, 0, none⟩ = some (.slice A0 f0.length c0) := (blk_cell h 0).trans rfl
theorem cellS32_1 {W : World} {g : Nat} {A0 : Option Addr} {c0 : Nat} {f0 : List (S36)} {f1 : Bool} (h : W.heap[g]? = some (.cells #[.slice A0 f0.length c0, .bool f1] 32 (0, 0))) : W.cell? ⟨g, 1, none⟩ = some (.bool f1) := (blk_cell h 1).trans rfl
theorem IsS32.set_1 {w0 W : World} {g : Nat} {f0 : List (S36)} {f1 : Bool} (h : IsS32 w0 W g f0 f1) (x : Bool) : IsS32 w0 (W.setCell ⟨g, 1, none⟩ (.bool x)) g f0 x := by
  obtain ⟨A0, c0, hb, hg, hr0⟩ := h
  exact ⟨A0, c0, by simpa using blk_set hb 1 (.bool x), hg, hr0⟩
theorem IsS32.new (w0 W : World) (A0 : Option Addr) (c0 : Nat) (f0 : List (S36)) (f1 : Bool) (hB : Below w0.heap.size w0 W) (hr0 : Kd.C k36 w0 A0 f0.length f0) : IsS32 w0 (W.alloc (.cells #[.slice A0 f0.length c0, .bool f1] 32)) W.heap.size f0 f1 := ⟨A0, c0, by simpa using heap_alloc_new W _, hB.size, hr0⟩

/-! ### laws_answers_check: function 16 -/
def laws_answers_check.f (s0_0 : List (S36)) (s0_1 : Bool) (a1 : Bool) : Option (Bool) := if s0_1 = true then (some a1) else (some false)
set_option maxHeartbeats 8000000 in
set_option maxRecDepth 100000 in
theorem laws_answers_check.calls (g : Nat) (s0_0 : List (S36)) (s0_1 : Bool) (a1 : Bool) (r : Bool) (w0 w : World) (hI : IsS32 w0 w g s0_0 s0_1) (hB : Below w0.heap.size w0 w) (h : laws_answers_check.f s0_0 s0_1 a1 = some r) :
    Calls Try.prog 16 #[.pointer (some ⟨g, 0, none⟩), .bool a1] w fun e w' => e = .returned (.tuple #[]) ∧ IsS32 w0 w' g s0_0 r ∧ Below w0.heap.size w0 w' ∧ KeepBut w w' g none := by
  have HI0 := Aside0.mk hI
  have HK := Aside0.mk (KeepBut.refl w g none)
  have HL := Aside0.mk hB.size
  clear hI
  have HW0 := Aside0.mk hB.size
  have HB := Aside0.mk hB
  clear hB
  have H : (if s0_1 = true then (some a1) else (some false)) = some r := h
  clear h
  by_cases c3 : s0_1 = true
  · subst c3
    have H1 : (some a1) = some r := by rw [if_pos rfl] at H; exact H
    clear H
    have H := H1
    clear H1
    obtain rfl := Option.some.inj H
    obtain ⟨ASz4_0, cSz4_0, HGz4, hgz4, HSz4_0⟩ := HI0.out
    have hcz4_0 := cellS32_0 HGz4
    have hcz4_1 := cellS32_1 HGz4
    have hfz4_1 := blk_frozen HGz4 1
    clear HGz4 hgz4
    go_enter Try.func16, Try.ntmps16
    go_wp2
    first | go_end0 | ((try simp only [Exit.inBlock, Exit.then]); refine bodyPost_ret (results_none rfl _ _ _) rfl ?_)
    exact ⟨by first | rfl | (simp [errW_none, errW_some] <;> rfl) | (simp [*, errW_none, errW_some] <;> rfl), by repeat (first | (with_reducible first | exact HI0.out | apply IsS32.alloc | apply IsS32.drewN | apply IsS32.drew | apply IsS32.set_1) | exact HI0.out), by repeat (first | (with_reducible first | exact HB.out | apply below_alloc | apply pw_below_drewN | apply below_drew1 | refine below_set ?_ (IsS32.ge HI0.out)) | exact HB.out), by repeat (first | (with_reducible first | exact HK.out | apply KeepBut.set_ | apply keep_drewN | apply keep_drew | apply keep_alloc) | exact HK.out)⟩
  · replace c3 := Bool.eq_false_iff.mpr c3
    subst c3
    have H1 : (some false) = some r := by rw [if_neg (show ¬ (false = true) by decide)] at H; exact H
    clear H
    have H := H1
    clear H1
    obtain rfl := Option.some.inj H
    obtain ⟨ASz5_0, cSz5_0, HGz5, hgz5, HSz5_0⟩ := HI0.out
    have hcz5_0 := cellS32_0 HGz5
    have hcz5_1 := cellS32_1 HGz5
    have hfz5_1 := blk_frozen HGz5 1
    clear HGz5 hgz5
    go_enter Try.func16, Try.ntmps16
    go_wp2
    first | go_end0 | ((try simp only [Exit.inBlock, Exit.then]); refine bodyPost_ret (results_none rfl _ _ _) rfl ?_)
    exact ⟨by first | rfl | (simp [errW_none, errW_some] <;> rfl) | (simp [*, errW_none, errW_some] <;> rfl), by repeat (first | (with_reducible first | exact HI0.out | apply IsS32.alloc | apply IsS32.drewN | apply IsS32.drew | apply IsS32.set_1) | exact HI0.out), by repeat (first | (with_reducible first | exact HB.out | apply below_alloc | apply pw_below_drewN | apply below_drew1 | refine below_set ?_ (IsS32.ge HI0.out)) | exact HB.out), by repeat (first | (with_reducible first | exact HK.out | apply KeepBut.set_ | apply keep_drewN | apply keep_drew | apply keep_alloc) | exact HK.out)⟩

end Go.Proofs.Ytoigekmdicepnaa.PFnMapState
