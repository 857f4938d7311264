-- PRINTED BY print.sh 35421559b90ae4d0a3588c463048766b98c2df88dd9212a6774a882060cdf62d: not written by this session
import Derived.Test.YtoigekmdicepnaaPFnTimerRunx0
import Derived.Test.YtoigekmdicepnaaPFnTimerRunx1
namespace Go.Proofs.Ytoigekmdicepnaa.PFnTimerRun
open Go.RowKit Go.Proofs.YtoigekmdicepnaaW.PrintWords Go.Proofs.YtoigekmdicepnaaW.PrintLast Go.Proofs.YtoigekmdicepnaaW.PrintMore
attribute [local go_sem] max2_int min2_int max_two min_two max_three min_three max_four min_four   -- for this text's walks alone
set_option linter.unusedVariables false
set_option linter.unusedSimpArgs false

/-! ### laws_timerMap: function 22 -/
def laws_timerMap.j0 : Nat → Bool → ByteArray → Int → Int → ByteArray → Bool → Int → Int → ByteArray → ByteArray → Bool → Int → Int → Option (ByteArray × ByteArray × Bool × Int × Int)
  | 0, _, _, _, _, _, _, _, _, _, _, _, _, _ => none
  | k + 1, x123000, x123001, x123002, x123003, x123004, x123005, x123006, x123007, x126000, x126001, x126002, x126003, x126004 => if x123006 = 1 then ((spec_TimerCut.f x123007).bind fun t126 => (some (x126000, x126001, x126002, x126003, t126))) else (if x123006 = 2 then (some (x126000, x126001, x126002, x126003, 9223372036854775)) else (some (x126000, x126001, x126002, x126003, x126003)))
def laws_timerMap.f (k : Nat) (a0_0 : Bool) (a0_1 : ByteArray) (a0_2 : Int) (a0_3 : Int) (a0_4 : ByteArray) (a0_5 : Bool) (a0_6 : Int) (a0_7 : Int) : Option (ByteArray × ByteArray × Bool × Int × Int) := if a0_2 = 1 then (some (a0_1, (⟨#[]⟩ : ByteArray), true, 0, 0)) else (if a0_2 = 2 then (some (a0_1, a0_4, true, 0, 0)) else ((spec_TimerCut.f a0_3).bind fun t124 => (if a0_5 = true then (laws_timerMap.j0 k a0_0 a0_1 a0_2 a0_3 a0_4 a0_5 a0_6 a0_7 a0_1 a0_4 false t124 0) else (laws_timerMap.j0 k a0_0 a0_1 a0_2 a0_3 a0_4 a0_5 a0_6 a0_7 a0_1 (⟨#[]⟩ : ByteArray) false t124 0))))
theorem laws_timerMap.mono_l : ∀ k, (∀ y0 y1 y2 y3 y4 y5 y6 y7 y8 y9 y10 y11 y12, LeO (laws_timerMap.j0 k y0 y1 y2 y3 y4 y5 y6 y7 y8 y9 y10 y11 y12) (laws_timerMap.j0 (k + 1) y0 y1 y2 y3 y4 y5 y6 y7 y8 y9 y10 y11 y12))
  | 0 => fun _ _ _ _ _ _ _ _ _ _ _ _ _ r h => by simp [laws_timerMap.j0] at h
  | k + 1 => by
    have ih0 := laws_timerMap.mono_l k
    · intro y0 y1 y2 y3 y4 y5 y6 y7 y8 y9 y10 y11 y12
      unfold laws_timerMap.j0
      repeat' first
      | (with_reducible exact ih0 _ _ _ _ _ _ _ _ _ _ _ _ _)
      | (with_reducible exact LeO.refl _)
      | (with_reducible exact LeO.none _)
      | (with_reducible refine LeO.ite ?_ ?_)
      | (with_reducible refine LeO.bind ?_ (fun _ => ?_))
      | exact ih0 _ _ _ _ _ _ _ _ _ _ _ _ _
      | exact LeO.none _
      | refine LeO.ite ?_ ?_
      | refine LeO.bind ?_ (fun _ => ?_)
theorem laws_timerMap.mono : ∀ a0 a1 a2 a3 a4 a5 a6 a7 k, LeO (laws_timerMap.f k a0 a1 a2 a3 a4 a5 a6 a7) (laws_timerMap.f (k + 1) a0 a1 a2 a3 a4 a5 a6 a7) := by
  intro a0 a1 a2 a3 a4 a5 a6 a7 k
  have ih0 := laws_timerMap.mono_l k
  unfold laws_timerMap.f
  repeat' first
      | (with_reducible exact ih0 _ _ _ _ _ _ _ _ _ _ _ _ _)
      | (with_reducible exact LeO.refl _)
      | (with_reducible exact LeO.none _)
      | (with_reducible refine LeO.ite ?_ ?_)
      | (with_reducible refine LeO.bind ?_ (fun _ => ?_))
      | exact ih0 _ _ _ _ _ _ _ _ _ _ _ _ _
      | exact LeO.none _
      | refine LeO.ite ?_ ?_
      | refine LeO.bind ?_ (fun _ => ?_)
def laws_timerMap.T6 : Bool × List (List Nat × List Nat) := (true, [([], []), ([0], [0]), ([], []), ([2], [2]), ([3], [3]), ([1, 4], [1, 4]), ([], []), ([6, 5, 4, 0, 1, 2, 3, 4, 5, 6], [5, 6])])
def laws_timerMap.B6 : List Nat := [0, 1, 0, 4, 12, 31, 0, 127]
theorem laws_timerMap.tab6 : rtab .any (opsOf Try.f22 6) = laws_timerMap.T6 := by kernel_rfl
theorem laws_timerMap.bits6 : waitsOk laws_timerMap.T6.2 laws_timerMap.B6 = true := by kernel_rfl
set_option maxHeartbeats 8000000 in
set_option maxRecDepth 100000 in
theorem laws_timerMap.calls (k : Nat) (a0_0 : Bool) (a0_1 : ByteArray) (a0_2 : Int) (a0_3 : Int) (a0_4 : ByteArray) (a0_5 : Bool) (a0_6 : Int) (a0_7 : Int) (r1 : ByteArray) (r2 : ByteArray) (r3 : Bool) (r4 : Int) (r5 : Int) (w : World) (h : laws_timerMap.f k a0_0 a0_1 a0_2 a0_3 a0_4 a0_5 a0_6 a0_7 = some (r1, r2, r3, r4, r5)) :
    Calls Try.prog 22 #[.agg #[.bool a0_0, .string a0_1, .int .i64 a0_2, .int .i64 a0_3, .string a0_4, .bool a0_5, .int .i64 a0_6, .int .i64 a0_7]] w fun e w' => e = .returned (.agg #[.string r1, .string r2, .bool r3, .int .i64 r4, .int .i64 r5]) ∧ Below w.heap.size w w' := by
  have hu44 := Try.underlying44
  have hu48 := Try.underlying48
  have HB := Aside0.mk (Below.refl w.heap.size w)
  have H : (if a0_2 = 1 then (some (a0_1, (⟨#[]⟩ : ByteArray), true, 0, 0)) else (if a0_2 = 2 then (some (a0_1, a0_4, true, 0, 0)) else ((spec_TimerCut.f a0_3).bind fun t124 => (if a0_5 = true then (laws_timerMap.j0 k a0_0 a0_1 a0_2 a0_3 a0_4 a0_5 a0_6 a0_7 a0_1 a0_4 false t124 0) else (laws_timerMap.j0 k a0_0 a0_1 a0_2 a0_3 a0_4 a0_5 a0_6 a0_7 a0_1 (⟨#[]⟩ : ByteArray) false t124 0))))) = some (r1, r2, r3, r4, r5) := h
  clear h
  by_cases c2 : a0_2 = 1
  · rw [if_pos c2] at H
    have c2b0 : (a0_2 == 1) = true := beq_iff_eq.mpr c2
    have c2b1 : (a0_2 != 1) = false := bne_eq_false_iff_eq.mpr c2
    clear c2
    simp only [Option.some.injEq, Prod.mk.injEq] at H
    obtain ⟨rfl, rfl, rfl, rfl, rfl⟩ := H
    go_enter Try.func22, Try.ntmps22
    go_wp2_with (first | ((with_reducible refine gate_dst (N := 1) rfl ?_); refine box_event ?hg (N := 1) ?hd (cs := #[.bool a0_0, .string a0_1, .int .i64 a0_2, .int .i64 a0_3, .string a0_4, .bool a0_5, .int .i64 a0_6, .int .i64 a0_7]) (t := 44) ?hr ?_; (case hd => rfl); (case hg => rfl); (case hr => first | (go_simp; done) | (go_simp; rfl)); intro gb122 hg w3 hbox hb; have n0_ := Aside0.mk (below_step (by repeat (first | (with_reducible first | exact HB.out | apply below_alloc | apply pw_below_drewN | apply below_drew1) | exact HB.out)) hb); have n1_ := Aside0.mk (hbox); have n2_ := Aside0.mk ((by rw [hg]; exact (below_size (by repeat (first | (with_reducible first | exact HB.out | apply below_alloc | apply pw_below_drewN | apply below_drew1) | exact HB.out))) : w.heap.size ≤ gb122)); have n3_ := Aside0.mk ((by rw [hg]; exact (below_size (by repeat (first | (with_reducible first | exact HB.out | apply below_alloc | apply pw_below_drewN | apply below_drew1) | exact HB.out))) : w.heap.size ≤ gb122)); clear HB; have HB := n0_; have BK122 := n1_; have GW122 := n2_; have GE122 := n3_; clear n0_ n1_ n2_ n3_; clear hb hbox hg) | ((with_reducible refine gate_dst (N := 2) rfl ?_); refine box_event ?hg (N := 2) ?hd (cs := #[.string (⟨#[]⟩ : ByteArray), .string (⟨#[]⟩ : ByteArray), .bool false, .int .i64 0, .int .i64 0]) (t := 48) ?hr ?_; (case hd => rfl); (case hg => rfl); (case hr => first | (go_simp; done) | (go_simp; rfl)); intro gb123 hg w4 hbox hb; have n0_ := Aside0.mk (blk_below (g := gb122) (o := .cells #[.bool a0_0, .string a0_1, .int .i64 a0_2, .int .i64 a0_3, .string a0_4, .bool a0_5, .int .i64 a0_6, .int .i64 a0_7] 44 (0, 0)) (by (with_reducible repeat (first | refine blk_drewN ?_ _ | refine blk_drew ?_ | refine blk_alloc ?_ _)); exact BK122.out) hb); have n1_ := Aside0.mk (below_step (by repeat (first | (with_reducible first | exact HB.out | apply below_alloc | apply pw_below_drewN | apply below_drew1 | refine below_set ?_ GE122.out) | exact HB.out)) hb); have n2_ := Aside0.mk (hbox); have n3_ := Aside0.mk ((by rw [hg]; exact (below_size (by repeat (first | (with_reducible first | exact HB.out | apply below_alloc | apply pw_below_drewN | apply below_drew1 | refine below_set ?_ GE122.out) | exact HB.out))) : w.heap.size ≤ gb123)); have n4_ := Aside0.mk ((by rw [hg]; exact (below_size (by repeat (first | (with_reducible first | exact HB.out | apply below_alloc | apply pw_below_drewN | apply below_drew1 | refine below_set ?_ GE122.out) | exact HB.out))) : w.heap.size ≤ gb123)); have n5_ := Aside0.mk ((by rw [hg]; exact Nat.ne_of_lt (blk_lt (g := gb122) (o := .cells #[.bool a0_0, .string a0_1, .int .i64 a0_2, .int .i64 a0_3, .string a0_4, .bool a0_5, .int .i64 a0_6, .int .i64 a0_7] 44 (0, 0)) (by (with_reducible repeat (first | refine blk_drewN ?_ _ | refine blk_drew ?_ | refine blk_alloc ?_ _)); exact BK122.out)) : gb122 ≠ gb123)); have n6_ := Aside0.mk ((by rw [hg]; exact Nat.ne_of_gt (blk_lt (g := gb122) (o := .cells #[.bool a0_0, .string a0_1, .int .i64 a0_2, .int .i64 a0_3, .string a0_4, .bool a0_5, .int .i64 a0_6, .int .i64 a0_7] 44 (0, 0)) (by (with_reducible repeat (first | refine blk_drewN ?_ _ | refine blk_drew ?_ | refine blk_alloc ?_ _)); exact BK122.out)) : gb123 ≠ gb122)); clear BK122; clear HB; have BK122 := n0_; have HB := n1_; have BK123 := n2_; have GW123 := n3_; have GE123 := n4_; have NB122_123 := n5_; have NB123_122 := n6_; clear n0_ n1_ n2_ n3_ n4_ n5_ n6_; clear hb hbox hg; have hnb5 := NB122_123.out; have hnc5 := NB123_122.out; have hcz6_0 : w4.cell? ⟨gb122, 0, none⟩ = some (.bool a0_0) := (blk_cell BK122.out 0).trans rfl; have hcz6_1 : w4.cell? ⟨gb122, 1, none⟩ = some (.string a0_1) := (blk_cell BK122.out 1).trans rfl; have hcz6_2 : w4.cell? ⟨gb122, 2, none⟩ = some (.int .i64 a0_2) := (blk_cell BK122.out 2).trans rfl; have hcz6_3 : w4.cell? ⟨gb122, 3, none⟩ = some (.int .i64 a0_3) := (blk_cell BK122.out 3).trans rfl; have hcz6_4 : w4.cell? ⟨gb122, 4, none⟩ = some (.string a0_4) := (blk_cell BK122.out 4).trans rfl; have hcz6_5 : w4.cell? ⟨gb122, 5, none⟩ = some (.bool a0_5) := (blk_cell BK122.out 5).trans rfl; have hcz6_6 : w4.cell? ⟨gb122, 6, none⟩ = some (.int .i64 a0_6) := (blk_cell BK122.out 6).trans rfl; have hcz6_7 : w4.cell? ⟨gb122, 7, none⟩ = some (.int .i64 a0_7) := (blk_cell BK122.out 7).trans rfl; have hfz6_0 := blk_frozen BK122.out 0; have hfz6_1 := blk_frozen BK122.out 1; have hfz6_2 := blk_frozen BK122.out 2; have hfz6_3 := blk_frozen BK122.out 3; have hfz6_4 := blk_frozen BK122.out 4; have hfz6_5 := blk_frozen BK122.out 5; have hfz6_6 := blk_frozen BK122.out 6; have hfz6_7 := blk_frozen BK122.out 7; have hcz7_0 : w4.cell? ⟨gb123, 0, none⟩ = some (.string (⟨#[]⟩ : ByteArray)) := (blk_cell BK123.out 0).trans rfl; have hcz7_1 : w4.cell? ⟨gb123, 1, none⟩ = some (.string (⟨#[]⟩ : ByteArray)) := (blk_cell BK123.out 1).trans rfl; have hcz7_2 : w4.cell? ⟨gb123, 2, none⟩ = some (.bool false) := (blk_cell BK123.out 2).trans rfl; have hcz7_3 : w4.cell? ⟨gb123, 3, none⟩ = some (.int .i64 0) := (blk_cell BK123.out 3).trans rfl; have hcz7_4 : w4.cell? ⟨gb123, 4, none⟩ = some (.int .i64 0) := (blk_cell BK123.out 4).trans rfl; have hfz7_0 := blk_frozen BK123.out 0; have hfz7_1 := blk_frozen BK123.out 1; have hfz7_2 := blk_frozen BK123.out 2; have hfz7_3 := blk_frozen BK123.out 3; have hfz7_4 := blk_frozen BK123.out 4))
    refine bodyPost_ret (results_cell_row rfl _ _ gb123 48 #[.string a0_1, .string (⟨#[]⟩ : ByteArray), .bool true, .int .i64 0, .int .i64 0] (0, 0) _ rfl (by (with_reducible repeat (first | refine blk_drewN ?_ _ | refine blk_drew ?_ | refine blk_alloc ?_ _)); refine blk_put (cs := #[.string a0_1, .string (⟨#[]⟩ : ByteArray), .bool true, .int .i64 0, .int .i64 0]) ?_ 4 _ rfl; (with_reducible repeat (first | refine blk_drewN ?_ _ | refine blk_drew ?_ | refine blk_alloc ?_ _)); refine blk_put (cs := #[.string a0_1, .string (⟨#[]⟩ : ByteArray), .bool true, .int .i64 0, .int .i64 0]) ?_ 3 _ rfl; (with_reducible repeat (first | refine blk_drewN ?_ _ | refine blk_drew ?_ | refine blk_alloc ?_ _)); refine blk_put (cs := #[.string a0_1, .string (⟨#[]⟩ : ByteArray), .bool false, .int .i64 0, .int .i64 0]) ?_ 2 _ rfl; (with_reducible repeat (first | refine blk_drewN ?_ _ | refine blk_drew ?_ | refine blk_alloc ?_ _)); refine blk_put (cs := #[.string a0_1, .string (⟨#[]⟩ : ByteArray), .bool false, .int .i64 0, .int .i64 0]) ?_ 1 _ rfl; (with_reducible repeat (first | refine blk_drewN ?_ _ | refine blk_drew ?_ | refine blk_alloc ?_ _)); refine blk_put (cs := #[.string (⟨#[]⟩ : ByteArray), .string (⟨#[]⟩ : ByteArray), .bool false, .int .i64 0, .int .i64 0]) ?_ 0 _ rfl; (with_reducible repeat (first | refine blk_drewN ?_ _ | refine blk_drew ?_ | refine blk_alloc ?_ _)); exact BK123.out) Try.underlying48 rfl (by kernel_rfl)) rfl ?_
    exact ⟨by first | rfl | (simp [errW_none, errW_some] <;> rfl) | (simp [*, errW_none, errW_some] <;> rfl), by repeat (first | (with_reducible first | exact HB.out | apply below_alloc | apply pw_below_drewN | apply below_drew1 | refine below_set ?_ GE122.out | refine below_set ?_ GE123.out) | exact HB.out)⟩
  · rw [if_neg c2] at H
    have c2b0 : (a0_2 == 1) = false := beq_eq_false_iff_ne.mpr c2
    have c2b1 : (a0_2 != 1) = true := bne_iff_ne.mpr c2
    by_cases c8 : a0_2 = 2
    · rw [if_pos c8] at H
      have c8b0 : (a0_2 == 2) = true := beq_iff_eq.mpr c8
      have c8b1 : (a0_2 != 2) = false := bne_eq_false_iff_eq.mpr c8
      clear c8
      simp only [Option.some.injEq, Prod.mk.injEq] at H
      obtain ⟨rfl, rfl, rfl, rfl, rfl⟩ := H
      go_enter Try.func22, Try.ntmps22
      go_wp2_with (first | ((with_reducible refine gate_dst (N := 1) rfl ?_); refine box_event ?hg (N := 1) ?hd (cs := #[.bool a0_0, .string a0_1, .int .i64 a0_2, .int .i64 a0_3, .string a0_4, .bool a0_5, .int .i64 a0_6, .int .i64 a0_7]) (t := 44) ?hr ?_; (case hd => rfl); (case hg => rfl); (case hr => first | (go_simp; done) | (go_simp; rfl)); intro gb122 hg w9 hbox hb; have n0_ := Aside0.mk (below_step (by repeat (first | (with_reducible first | exact HB.out | apply below_alloc | apply pw_below_drewN | apply below_drew1) | exact HB.out)) hb); have n1_ := Aside0.mk (hbox); have n2_ := Aside0.mk ((by rw [hg]; exact (below_size (by repeat (first | (with_reducible first | exact HB.out | apply below_alloc | apply pw_below_drewN | apply below_drew1) | exact HB.out))) : w.heap.size ≤ gb122)); have n3_ := Aside0.mk ((by rw [hg]; exact (below_size (by repeat (first | (with_reducible first | exact HB.out | apply below_alloc | apply pw_below_drewN | apply below_drew1) | exact HB.out))) : w.heap.size ≤ gb122)); clear HB; have HB := n0_; have BK122 := n1_; have GW122 := n2_; have GE122 := n3_; clear n0_ n1_ n2_ n3_; clear hb hbox hg) | ((with_reducible refine gate_dst (N := 2) rfl ?_); refine box_event ?hg (N := 2) ?hd (cs := #[.string (⟨#[]⟩ : ByteArray), .string (⟨#[]⟩ : ByteArray), .bool false, .int .i64 0, .int .i64 0]) (t := 48) ?hr ?_; (case hd => rfl); (case hg => rfl); (case hr => first | (go_simp; done) | (go_simp; rfl)); intro gb123 hg w10 hbox hb; have n0_ := Aside0.mk (blk_below (g := gb122) (o := .cells #[.bool a0_0, .string a0_1, .int .i64 a0_2, .int .i64 a0_3, .string a0_4, .bool a0_5, .int .i64 a0_6, .int .i64 a0_7] 44 (0, 0)) (by (with_reducible repeat (first | refine blk_drewN ?_ _ | refine blk_drew ?_ | refine blk_alloc ?_ _)); exact BK122.out) hb); have n1_ := Aside0.mk (below_step (by repeat (first | (with_reducible first | exact HB.out | apply below_alloc | apply pw_below_drewN | apply below_drew1 | refine below_set ?_ GE122.out) | exact HB.out)) hb); have n2_ := Aside0.mk (hbox); have n3_ := Aside0.mk ((by rw [hg]; exact (below_size (by repeat (first | (with_reducible first | exact HB.out | apply below_alloc | apply pw_below_drewN | apply below_drew1 | refine below_set ?_ GE122.out) | exact HB.out))) : w.heap.size ≤ gb123)); have n4_ := Aside0.mk ((by rw [hg]; exact (below_size (by repeat (first | (with_reducible first | exact HB.out | apply below_alloc | apply pw_below_drewN | apply below_drew1 | refine below_set ?_ GE122.out) | exact HB.out))) : w.heap.size ≤ gb123)); have n5_ := Aside0.mk ((by rw [hg]; exact Nat.ne_of_lt (blk_lt (g := gb122) (o := .cells #[.bool a0_0, .string a0_1, .int .i64 a0_2, .int .i64 a0_3, .string a0_4, .bool a0_5, .int .i64 a0_6, .int .i64 a0_7] 44 (0, 0)) (by (with_reducible repeat (first | refine blk_drewN ?_ _ | refine blk_drew ?_ | refine blk_alloc ?_ _)); exact BK122.out)) : gb122 ≠ gb123)); have n6_ := Aside0.mk ((by rw [hg]; exact Nat.ne_of_gt (blk_lt (g := gb122) (o := .cells #[.bool a0_0, .string a0_1, .int .i64 a0_2, .int .i64 a0_3, .string a0_4, .bool a0_5, .int .i64 a0_6, .int .i64 a0_7] 44 (0, 0)) (by (with_reducible repeat (first | refine blk_drewN ?_ _ | refine blk_drew ?_ | refine blk_alloc ?_ _)); exact BK122.out)) : gb123 ≠ gb122)); clear BK122; clear HB; have BK122 := n0_; have HB := n1_; have BK123 := n2_; have GW123 := n3_; have GE123 := n4_; have NB122_123 := n5_; have NB123_122 := n6_; clear n0_ n1_ n2_ n3_ n4_ n5_ n6_; clear hb hbox hg; have hnb11 := NB122_123.out; have hnc11 := NB123_122.out; have hcz12_0 : w10.cell? ⟨gb122, 0, none⟩ = some (.bool a0_0) := (blk_cell BK122.out 0).trans rfl; have hcz12_1 : w10.cell? ⟨gb122, 1, none⟩ = some (.string a0_1) := (blk_cell BK122.out 1).trans rfl; have hcz12_2 : w10.cell? ⟨gb122, 2, none⟩ = some (.int .i64 a0_2) := (blk_cell BK122.out 2).trans rfl; have hcz12_3 : w10.cell? ⟨gb122, 3, none⟩ = some (.int .i64 a0_3) := (blk_cell BK122.out 3).trans rfl; have hcz12_4 : w10.cell? ⟨gb122, 4, none⟩ = some (.string a0_4) := (blk_cell BK122.out 4).trans rfl; have hcz12_5 : w10.cell? ⟨gb122, 5, none⟩ = some (.bool a0_5) := (blk_cell BK122.out 5).trans rfl; have hcz12_6 : w10.cell? ⟨gb122, 6, none⟩ = some (.int .i64 a0_6) := (blk_cell BK122.out 6).trans rfl; have hcz12_7 : w10.cell? ⟨gb122, 7, none⟩ = some (.int .i64 a0_7) := (blk_cell BK122.out 7).trans rfl; have hfz12_0 := blk_frozen BK122.out 0; have hfz12_1 := blk_frozen BK122.out 1; have hfz12_2 := blk_frozen BK122.out 2; have hfz12_3 := blk_frozen BK122.out 3; have hfz12_4 := blk_frozen BK122.out 4; have hfz12_5 := blk_frozen BK122.out 5; have hfz12_6 := blk_frozen BK122.out 6; have hfz12_7 := blk_frozen BK122.out 7; have hcz13_0 : w10.cell? ⟨gb123, 0, none⟩ = some (.string (⟨#[]⟩ : ByteArray)) := (blk_cell BK123.out 0).trans rfl; have hcz13_1 : w10.cell? ⟨gb123, 1, none⟩ = some (.string (⟨#[]⟩ : ByteArray)) := (blk_cell BK123.out 1).trans rfl; have hcz13_2 : w10.cell? ⟨gb123, 2, none⟩ = some (.bool false) := (blk_cell BK123.out 2).trans rfl; have hcz13_3 : w10.cell? ⟨gb123, 3, none⟩ = some (.int .i64 0) := (blk_cell BK123.out 3).trans rfl; have hcz13_4 : w10.cell? ⟨gb123, 4, none⟩ = some (.int .i64 0) := (blk_cell BK123.out 4).trans rfl; have hfz13_0 := blk_frozen BK123.out 0; have hfz13_1 := blk_frozen BK123.out 1; have hfz13_2 := blk_frozen BK123.out 2; have hfz13_3 := blk_frozen BK123.out 3; have hfz13_4 := blk_frozen BK123.out 4))
      refine bodyPost_ret (results_cell_row rfl _ _ gb123 48 #[.string a0_1, .string a0_4, .bool true, .int .i64 0, .int .i64 0] (0, 0) _ rfl (by (with_reducible repeat (first | refine blk_drewN ?_ _ | refine blk_drew ?_ | refine blk_alloc ?_ _)); refine blk_put (cs := #[.string a0_1, .string a0_4, .bool true, .int .i64 0, .int .i64 0]) ?_ 4 _ rfl; (with_reducible repeat (first | refine blk_drewN ?_ _ | refine blk_drew ?_ | refine blk_alloc ?_ _)); refine blk_put (cs := #[.string a0_1, .string a0_4, .bool true, .int .i64 0, .int .i64 0]) ?_ 3 _ rfl; (with_reducible repeat (first | refine blk_drewN ?_ _ | refine blk_drew ?_ | refine blk_alloc ?_ _)); refine blk_put (cs := #[.string a0_1, .string a0_4, .bool false, .int .i64 0, .int .i64 0]) ?_ 2 _ rfl; (with_reducible repeat (first | refine blk_drewN ?_ _ | refine blk_drew ?_ | refine blk_alloc ?_ _)); refine blk_put (cs := #[.string a0_1, .string (⟨#[]⟩ : ByteArray), .bool false, .int .i64 0, .int .i64 0]) ?_ 1 _ rfl; (with_reducible repeat (first | refine blk_drewN ?_ _ | refine blk_drew ?_ | refine blk_alloc ?_ _)); refine blk_put (cs := #[.string (⟨#[]⟩ : ByteArray), .string (⟨#[]⟩ : ByteArray), .bool false, .int .i64 0, .int .i64 0]) ?_ 0 _ rfl; (with_reducible repeat (first | refine blk_drewN ?_ _ | refine blk_drew ?_ | refine blk_alloc ?_ _)); exact BK123.out) Try.underlying48 rfl (by kernel_rfl)) rfl ?_
      exact ⟨by first | rfl | (simp [errW_none, errW_some] <;> rfl) | (simp [*, errW_none, errW_some] <;> rfl), by repeat (first | (with_reducible first | exact HB.out | apply below_alloc | apply pw_below_drewN | apply below_drew1 | refine below_set ?_ GE122.out | refine below_set ?_ GE123.out) | exact HB.out)⟩
    · rw [if_neg c8] at H
      have c8b0 : (a0_2 == 2) = false := beq_eq_false_iff_ne.mpr c8
      have c8b1 : (a0_2 != 2) = true := bne_iff_ne.mpr c8
      replace H := Option.bind_eq_some_iff.mp H
      obtain ⟨t124, A140, H⟩ := H
      replace H : (if a0_5 = true then (laws_timerMap.j0 k a0_0 a0_1 a0_2 a0_3 a0_4 a0_5 a0_6 a0_7 a0_1 a0_4 false t124 0) else (laws_timerMap.j0 k a0_0 a0_1 a0_2 a0_3 a0_4 a0_5 a0_6 a0_7 a0_1 (⟨#[]⟩ : ByteArray) false t124 0)) = some (r1, r2, r3, r4, r5) := H
      have A14 := Aside0.mk A140
      clear A140
      have HC15 := Aside0.mk H
      clear H
      go_enter Try.func22, Try.ntmps22
      try go_wp2_with (first | ((with_reducible refine gate_dst (N := 1) rfl ?_); refine box_event ?hg (N := 1) ?hd (cs := #[.bool a0_0, .string a0_1, .int .i64 a0_2, .int .i64 a0_3, .string a0_4, .bool a0_5, .int .i64 a0_6, .int .i64 a0_7]) (t := 44) ?hr ?_; (case hd => rfl); (case hg => rfl); (case hr => first | (go_simp; done) | (go_simp; rfl)); intro gb122 hg w16 hbox hb; have n0_ := Aside0.mk (below_step (by repeat (first | (with_reducible first | exact HB.out | apply below_alloc | apply pw_below_drewN | apply below_drew1) | exact HB.out)) hb); have n1_ := Aside0.mk (hbox); have n2_ := Aside0.mk ((by rw [hg]; exact (below_size (by repeat (first | (with_reducible first | exact HB.out | apply below_alloc | apply pw_below_drewN | apply below_drew1) | exact HB.out))) : w.heap.size ≤ gb122)); have n3_ := Aside0.mk ((by rw [hg]; exact (below_size (by repeat (first | (with_reducible first | exact HB.out | apply below_alloc | apply pw_below_drewN | apply below_drew1) | exact HB.out))) : w.heap.size ≤ gb122)); clear HB; have HB := n0_; have BK122 := n1_; have GW122 := n2_; have GE122 := n3_; clear n0_ n1_ n2_ n3_; clear hb hbox hg) | ((with_reducible refine gate_dst (N := 2) rfl ?_); refine box_event ?hg (N := 2) ?hd (cs := #[.string (⟨#[]⟩ : ByteArray), .string (⟨#[]⟩ : ByteArray), .bool false, .int .i64 0, .int .i64 0]) (t := 48) ?hr ?_; (case hd => rfl); (case hg => rfl); (case hr => first | (go_simp; done) | (go_simp; rfl)); intro gb123 hg w17 hbox hb; have n0_ := Aside0.mk (blk_below (g := gb122) (o := .cells #[.bool a0_0, .string a0_1, .int .i64 a0_2, .int .i64 a0_3, .string a0_4, .bool a0_5, .int .i64 a0_6, .int .i64 a0_7] 44 (0, 0)) (by (with_reducible repeat (first | refine blk_drewN ?_ _ | refine blk_drew ?_ | refine blk_alloc ?_ _)); exact BK122.out) hb); have n1_ := Aside0.mk (below_step (by repeat (first | (with_reducible first | exact HB.out | apply below_alloc | apply pw_below_drewN | apply below_drew1 | refine below_set ?_ GE122.out) | exact HB.out)) hb); have n2_ := Aside0.mk (hbox); have n3_ := Aside0.mk ((by rw [hg]; exact (below_size (by repeat (first | (with_reducible first | exact HB.out | apply below_alloc | apply pw_below_drewN | apply below_drew1 | refine below_set ?_ GE122.out) | exact HB.out))) : w.heap.size ≤ gb123)); have n4_ := Aside0.mk ((by rw [hg]; exact (below_size (by repeat (first | (with_reducible first | exact HB.out | apply below_alloc | apply pw_below_drewN | apply below_drew1 | refine below_set ?_ GE122.out) | exact HB.out))) : w.heap.size ≤ gb123)); have n5_ := Aside0.mk ((by rw [hg]; exact Nat.ne_of_lt (blk_lt (g := gb122) (o := .cells #[.bool a0_0, .string a0_1, .int .i64 a0_2, .int .i64 a0_3, .string a0_4, .bool a0_5, .int .i64 a0_6, .int .i64 a0_7] 44 (0, 0)) (by (with_reducible repeat (first | refine blk_drewN ?_ _ | refine blk_drew ?_ | refine blk_alloc ?_ _)); exact BK122.out)) : gb122 ≠ gb123)); have n6_ := Aside0.mk ((by rw [hg]; exact Nat.ne_of_gt (blk_lt (g := gb122) (o := .cells #[.bool a0_0, .string a0_1, .int .i64 a0_2, .int .i64 a0_3, .string a0_4, .bool a0_5, .int .i64 a0_6, .int .i64 a0_7] 44 (0, 0)) (by (with_reducible repeat (first | refine blk_drewN ?_ _ | refine blk_drew ?_ | refine blk_alloc ?_ _)); exact BK122.out)) : gb123 ≠ gb122)); clear BK122; clear HB; have BK122 := n0_; have HB := n1_; have BK123 := n2_; have GW123 := n3_; have GE123 := n4_; have NB122_123 := n5_; have NB123_122 := n6_; clear n0_ n1_ n2_ n3_ n4_ n5_ n6_; clear hb hbox hg; have hnb18 := NB122_123.out; have hnc18 := NB123_122.out; have hcz19_0 : w17.cell? ⟨gb122, 0, none⟩ = some (.bool a0_0) := (blk_cell BK122.out 0).trans rfl; have hcz19_1 : w17.cell? ⟨gb122, 1, none⟩ = some (.string a0_1) := (blk_cell BK122.out 1).trans rfl; have hcz19_2 : w17.cell? ⟨gb122, 2, none⟩ = some (.int .i64 a0_2) := (blk_cell BK122.out 2).trans rfl; have hcz19_3 : w17.cell? ⟨gb122, 3, none⟩ = some (.int .i64 a0_3) := (blk_cell BK122.out 3).trans rfl; have hcz19_4 : w17.cell? ⟨gb122, 4, none⟩ = some (.string a0_4) := (blk_cell BK122.out 4).trans rfl; have hcz19_5 : w17.cell? ⟨gb122, 5, none⟩ = some (.bool a0_5) := (blk_cell BK122.out 5).trans rfl; have hcz19_6 : w17.cell? ⟨gb122, 6, none⟩ = some (.int .i64 a0_6) := (blk_cell BK122.out 6).trans rfl; have hcz19_7 : w17.cell? ⟨gb122, 7, none⟩ = some (.int .i64 a0_7) := (blk_cell BK122.out 7).trans rfl; have hfz19_0 := blk_frozen BK122.out 0; have hfz19_1 := blk_frozen BK122.out 1; have hfz19_2 := blk_frozen BK122.out 2; have hfz19_3 := blk_frozen BK122.out 3; have hfz19_4 := blk_frozen BK122.out 4; have hfz19_5 := blk_frozen BK122.out 5; have hfz19_6 := blk_frozen BK122.out 6; have hfz19_7 := blk_frozen BK122.out 7))
      have n0_ := Aside0.mk (blk_drew BK122.out)
      have n1_ := Aside0.mk (blk_drew BK123.out)
      have n2_ := Aside0.mk (below_drew1 HB.out)
      clear BK122
      clear BK123
      clear HB
      have BK122 := n0_
      have BK123 := n1_
      have HB := n2_
      clear n0_ n1_ n2_
      refine start_ (n := 8) (S := fun w' => w'.cell? ⟨gb122, 0, none⟩ = some (.bool a0_0) ∧ w'.cell? ⟨gb122, 1, none⟩ = some (.string a0_1) ∧ w'.cell? ⟨gb122, 2, none⟩ = some (.int .i64 a0_2) ∧ w'.cell? ⟨gb122, 3, none⟩ = some (.int .i64 a0_3) ∧ w'.cell? ⟨gb122, 4, none⟩ = some (.string a0_4) ∧ w'.cell? ⟨gb122, 5, none⟩ = some (.bool a0_5) ∧ w'.cell? ⟨gb122, 6, none⟩ = some (.int .i64 a0_6) ∧ w'.cell? ⟨gb122, 7, none⟩ = some (.int .i64 a0_7)) (ds := []) #[false, false, false, false, false, false, false, false] (by kernel_rfl) rfl rfl ⟨(blk_cell BK122.out 0).trans rfl, (blk_cell BK122.out 1).trans rfl, (blk_cell BK122.out 2).trans rfl, (blk_cell BK122.out 3).trans rfl, (blk_cell BK122.out 4).trans rfl, (blk_cell BK122.out 5).trans rfl, (blk_cell BK122.out 6).trans rfl, (blk_cell BK122.out 7).trans rfl⟩ (fun hHeld => ?_); refine with_tabW laws_timerMap.tab6 laws_timerMap.bits6 (fun HT_ HW_ => ?_)
      generalize w17.drew = w20 at BK122 BK123 HB hHeld ⊢
      refine pure_ (i := 0) (N := some 18) (v := ?_) (a' := ?_) #[true, false, false, false, false, false, false, false] rfl rfl (any_of HT_.out (by kernel_rfl)) (fun _ _ _ h => h) (Or.inl ⟨by rfl, ?_⟩) ?_ ?_
      rotate_left
      · intro w'
        go_simp
        with_reducible rfl
      rotate_left
      · simp only [Act.put, List.setIfInBounds_toArray, List.set_cons_zero, List.set_cons_succ, i64_w, i32_w]
        rfl
      refine pure_ (i := 2) (N := some 20) (v := ?_) (a' := ?_) #[true, false, true, false, false, false, false, false] rfl rfl (any_of HT_.out (by kernel_rfl)) (fun _ _ _ h => h) (Or.inl ⟨by rfl, ?_⟩) ?_ ?_
      rotate_left
      · intro w'
        go_simp
        with_reducible rfl
      rotate_left
      · simp only [Act.put, List.setIfInBounds_toArray, List.set_cons_zero, List.set_cons_succ, i64_w, i32_w]
        rfl
      refine take_ (i := 1) (N := some 19) (v := ?_) (a' := ?_) #[true, true, true, false, false, false, false, false] rfl rfl (take_ofW HT_.out HW_.out (by kernel_rfl)) (fun _ _ _ h => h) (Or.inl ⟨by rfl, ?_⟩) hHeld ?_ ?_
      rotate_left
      · rintro w' ⟨s0, s1, s2, s3, s4, s5, s6, s7⟩
        go_simp
        with_reducible rfl
      rotate_left
      · simp only [Act.put, List.setIfInBounds_toArray, List.set_cons_zero, List.set_cons_succ, i64_w, i32_w]
        rfl
      refine take_ (i := 3) (N := some 21) (v := ?_) (a' := ?_) #[true, true, true, true, false, false, false, false] rfl rfl (take_ofW HT_.out HW_.out (by kernel_rfl)) (fun _ _ _ h => h) (Or.inl ⟨by rfl, ?_⟩) hHeld ?_ ?_
      rotate_left
      · rintro w' ⟨s0, s1, s2, s3, s4, s5, s6, s7⟩
        go_simp
        with_reducible rfl
      rotate_left
      · simp only [Act.put, List.setIfInBounds_toArray, List.set_cons_zero, List.set_cons_succ, i64_w, i32_w]
        rfl
      refine join_ (σ := Nat) 1 #[true, true, true, true, true, true, true, false] (fun s_ => [(22, .int .i64 t124), (3, .pointer (some ⟨s_, 0, none⟩)), (23, .agg #[.string a0_1, .string (⟨#[]⟩ : ByteArray), .bool false, .int .i64 t124, .int .i64 0])]) (fun s_ w' => (w'.cell? ⟨gb122, 0, none⟩ = some (.bool a0_0) ∧ w'.cell? ⟨gb122, 1, none⟩ = some (.string a0_1) ∧ w'.cell? ⟨gb122, 2, none⟩ = some (.int .i64 a0_2) ∧ w'.cell? ⟨gb122, 3, none⟩ = some (.int .i64 a0_3) ∧ w'.cell? ⟨gb122, 4, none⟩ = some (.string a0_4) ∧ w'.cell? ⟨gb122, 5, none⟩ = some (.bool a0_5) ∧ w'.cell? ⟨gb122, 6, none⟩ = some (.int .i64 a0_6) ∧ w'.cell? ⟨gb122, 7, none⟩ = some (.int .i64 a0_7)) ∧ (w'.heap[gb122]? = some (.cells #[.bool a0_0, .string a0_1, .int .i64 a0_2, .int .i64 a0_3, .string a0_4, .bool a0_5, .int .i64 a0_6, .int .i64 a0_7] 44 (0, 0))) ∧ (w'.heap[gb123]? = some (.cells #[.string (⟨#[]⟩ : ByteArray), .string (⟨#[]⟩ : ByteArray), .bool false, .int .i64 0, .int .i64 0] 48 (0, 0))) ∧ (w'.heap[s_]? = some (.cells #[.string (⟨#[]⟩ : ByteArray), .string (⟨#[]⟩ : ByteArray), .bool false, .int .i64 0, .int .i64 0] 48 (0, 0))) ∧ (w.heap.size ≤ s_) ∧ (w.heap.size ≤ s_) ∧ (gb122 ≠ s_) ∧ (s_ ≠ gb122) ∧ (gb123 ≠ s_) ∧ (s_ ≠ gb123) ∧ (Below w.heap.size w w')) ?_ ?_
      rotate_left
      · intro hCont
        refine two_ (i := 4) (j := 6) (Ni := some 22) (Nj := some 3) #[true, true, true, true, true, false, false, false] #[true, true, true, true, false, false, true, false] rfl rfl rfl rfl (two_of HT_.out (by kernel_rfl)) (by decide) (by decide) (fun K hK => ?_) (fun K hK => ?_)
        · skip
          refine goes_ Try.func55 (by kernel_rfl) rfl #[.int .i64 a0_3] (by rfl) rfl rfl (by (try simp only [List.map_toArray, List.map_cons, List.map_nil]); first | done | rfl | (simp only [List.length_drop, List.length_take]; rfl)) ?_
          with_reducible refine (spec_TimerCut.calls a0_3 t124 _ A14.out).mono ?_
          rintro e w21 ⟨rfl, hb⟩
          refine ⟨_, rfl, ?_⟩
          have n0_ := Aside0.mk (blk_below (g := gb122) (o := .cells #[.bool a0_0, .string a0_1, .int .i64 a0_2, .int .i64 a0_3, .string a0_4, .bool a0_5, .int .i64 a0_6, .int .i64 a0_7] 44 (0, 0)) (by (with_reducible repeat (first | refine blk_drewN ?_ _ | refine blk_drew ?_ | refine blk_alloc ?_ _)); exact BK122.out) hb)
          have n1_ := Aside0.mk (blk_below (g := gb123) (o := .cells #[.string (⟨#[]⟩ : ByteArray), .string (⟨#[]⟩ : ByteArray), .bool false, .int .i64 0, .int .i64 0] 48 (0, 0)) (by (with_reducible repeat (first | refine blk_drewN ?_ _ | refine blk_drew ?_ | refine blk_alloc ?_ _)); exact BK123.out) hb)
          have n2_ := Aside0.mk (below_step (by repeat (first | (with_reducible first | exact HB.out | apply below_alloc | apply pw_below_drewN | apply below_drew1 | refine below_set ?_ GE122.out | refine below_set ?_ GE123.out) | exact HB.out)) hb)
          clear BK122
          clear BK123
          clear HB
          have BK122 := n0_
          have BK123 := n1_
          have HB := n2_
          clear n0_ n1_ n2_
          (try clear hb)
          (try clear hb2)
          (try clear hk)
          (try clear hi)
          refine hK.out _ _ ⟨(blk_cell BK122.out 0).trans rfl, (blk_cell BK122.out 1).trans rfl, (blk_cell BK122.out 2).trans rfl, (blk_cell BK122.out 3).trans rfl, (blk_cell BK122.out 4).trans rfl, (blk_cell BK122.out 5).trans rfl, (blk_cell BK122.out 6).trans rfl, (blk_cell BK122.out 7).trans rfl⟩ (fun hHeld => ?_)
          clear hK K
          refine norm_ (a' := ?_) ?_ ?_
          rotate_left
          · show Act.put _ (some 22) _ = _
            simp only [Act.put, List.setIfInBounds_toArray, List.set_cons_zero, List.set_cons_succ, i64_w, i32_w]
            rfl
          refine pure_ (i := 5) (N := some 23) (v := ?_) (a' := ?_) #[true, true, true, true, true, true, false, false] rfl rfl (any_of HT_.out (by kernel_rfl)) (fun _ _ _ h => h) (Or.inl ⟨by rfl, ?_⟩) ?_ ?_
          rotate_left
          · intro w'
            go_simp
            with_reducible rfl
          rotate_left
          · simp only [Act.put, List.setIfInBounds_toArray, List.set_cons_zero, List.set_cons_succ, i64_w, i32_w]
            rfl
          refine one_ (i := 6) (N := some 3) #[true, true, true, true, true, true, true, false] rfl rfl (one_of HT_.out (by kernel_rfl)) (by decide) (fun K hK => ?_)
          refine box_step ?hg (N := 3) ?hd (cs := #[.string (⟨#[]⟩ : ByteArray), .string (⟨#[]⟩ : ByteArray), .bool false, .int .i64 0, .int .i64 0]) (t := 48) ?hr ?_; (case hd => rfl); (case hg => rfl); (case hr => first | (go_simp; done) | (go_simp; rfl))
          intro gb125 hg w22 hbox hb
          have n0_ := Aside0.mk (blk_below (g := gb122) (o := .cells #[.bool a0_0, .string a0_1, .int .i64 a0_2, .int .i64 a0_3, .string a0_4, .bool a0_5, .int .i64 a0_6, .int .i64 a0_7] 44 (0, 0)) (by (with_reducible repeat (first | refine blk_drewN ?_ _ | refine blk_drew ?_ | refine blk_alloc ?_ _)); exact BK122.out) hb)
          have n1_ := Aside0.mk (blk_below (g := gb123) (o := .cells #[.string (⟨#[]⟩ : ByteArray), .string (⟨#[]⟩ : ByteArray), .bool false, .int .i64 0, .int .i64 0] 48 (0, 0)) (by (with_reducible repeat (first | refine blk_drewN ?_ _ | refine blk_drew ?_ | refine blk_alloc ?_ _)); exact BK123.out) hb)
          have n2_ := Aside0.mk (below_step (by repeat (first | (with_reducible first | exact HB.out | apply below_alloc | apply pw_below_drewN | apply below_drew1 | refine below_set ?_ GE122.out | refine below_set ?_ GE123.out) | exact HB.out)) hb)
          have n3_ := Aside0.mk (hbox)
          have n4_ := Aside0.mk ((by rw [hg]; exact (below_size (by repeat (first | (with_reducible first | exact HB.out | apply below_alloc | apply pw_below_drewN | apply below_drew1 | refine below_set ?_ GE122.out | refine below_set ?_ GE123.out) | exact HB.out))) : w.heap.size ≤ gb125))
          have n5_ := Aside0.mk ((by rw [hg]; exact (below_size (by repeat (first | (with_reducible first | exact HB.out | apply below_alloc | apply pw_below_drewN | apply below_drew1 | refine below_set ?_ GE122.out | refine below_set ?_ GE123.out) | exact HB.out))) : w.heap.size ≤ gb125))
          have n6_ := Aside0.mk ((by rw [hg]; exact Nat.ne_of_lt (blk_lt (g := gb122) (o := .cells #[.bool a0_0, .string a0_1, .int .i64 a0_2, .int .i64 a0_3, .string a0_4, .bool a0_5, .int .i64 a0_6, .int .i64 a0_7] 44 (0, 0)) (by (with_reducible repeat (first | refine blk_drewN ?_ _ | refine blk_drew ?_ | refine blk_alloc ?_ _)); exact BK122.out)) : gb122 ≠ gb125))
          have n7_ := Aside0.mk ((by rw [hg]; exact Nat.ne_of_gt (blk_lt (g := gb122) (o := .cells #[.bool a0_0, .string a0_1, .int .i64 a0_2, .int .i64 a0_3, .string a0_4, .bool a0_5, .int .i64 a0_6, .int .i64 a0_7] 44 (0, 0)) (by (with_reducible repeat (first | refine blk_drewN ?_ _ | refine blk_drew ?_ | refine blk_alloc ?_ _)); exact BK122.out)) : gb125 ≠ gb122))
          have n8_ := Aside0.mk ((by rw [hg]; exact Nat.ne_of_lt (blk_lt (g := gb123) (o := .cells #[.string (⟨#[]⟩ : ByteArray), .string (⟨#[]⟩ : ByteArray), .bool false, .int .i64 0, .int .i64 0] 48 (0, 0)) (by (with_reducible repeat (first | refine blk_drewN ?_ _ | refine blk_drew ?_ | refine blk_alloc ?_ _)); exact BK123.out)) : gb123 ≠ gb125))
          have n9_ := Aside0.mk ((by rw [hg]; exact Nat.ne_of_gt (blk_lt (g := gb123) (o := .cells #[.string (⟨#[]⟩ : ByteArray), .string (⟨#[]⟩ : ByteArray), .bool false, .int .i64 0, .int .i64 0] 48 (0, 0)) (by (with_reducible repeat (first | refine blk_drewN ?_ _ | refine blk_drew ?_ | refine blk_alloc ?_ _)); exact BK123.out)) : gb125 ≠ gb123))
          clear BK122
          clear BK123
          clear HB
          have BK122 := n0_
          have BK123 := n1_
          have HB := n2_
          have BK125 := n3_
          have GW125 := n4_
          have GE125 := n5_
          have NB122_125 := n6_
          have NB125_122 := n7_
          have NB123_125 := n8_
          have NB125_123 := n9_
          clear n0_ n1_ n2_ n3_ n4_ n5_ n6_ n7_ n8_ n9_
          clear hb hbox hg
          refine hK.out _ _ ⟨(blk_cell BK122.out 0).trans rfl, (blk_cell BK122.out 1).trans rfl, (blk_cell BK122.out 2).trans rfl, (blk_cell BK122.out 3).trans rfl, (blk_cell BK122.out 4).trans rfl, (blk_cell BK122.out 5).trans rfl, (blk_cell BK122.out 6).trans rfl, (blk_cell BK122.out 7).trans rfl⟩ (fun hHeld => ?_)
          clear hK K
          refine norm_ (a' := ?_) ?_ ?_
          rotate_left
          · show Act.put _ (some 3) _ = _
            simp only [Act.put, List.setIfInBounds_toArray, List.set_cons_zero, List.set_cons_succ, i64_w, i32_w]
            rfl
          exact norm_ (by simp only [putAll, Act.put, List.setIfInBounds_toArray, List.set_cons_zero, List.set_cons_succ]) (hCont (gb125) _ ⟨hHeld, (by (with_reducible repeat (first | refine blk_drewN ?_ _ | refine blk_drew ?_ | refine blk_alloc ?_ _)); exact BK122.out), (by (with_reducible repeat (first | refine blk_drewN ?_ _ | refine blk_drew ?_ | refine blk_alloc ?_ _)); exact BK123.out), (by (with_reducible repeat (first | refine blk_drewN ?_ _ | refine blk_drew ?_ | refine blk_alloc ?_ _)); exact BK125.out), GW125.out, GE125.out, NB122_125.out, NB125_122.out, NB123_125.out, NB125_123.out, (by repeat (first | (with_reducible first | exact HB.out | apply below_alloc | apply pw_below_drewN | apply below_drew1 | refine below_set ?_ GE122.out | refine below_set ?_ GE123.out | refine below_set ?_ GE125.out) | exact HB.out))⟩)
        · skip
          refine box_step ?hg (N := 3) ?hd (cs := #[.string (⟨#[]⟩ : ByteArray), .string (⟨#[]⟩ : ByteArray), .bool false, .int .i64 0, .int .i64 0]) (t := 48) ?hr ?_; (case hd => rfl); (case hg => rfl); (case hr => first | (go_simp; done) | (go_simp; rfl))
          intro gb125 hg w21 hbox hb
          have n0_ := Aside0.mk (blk_below (g := gb122) (o := .cells #[.bool a0_0, .string a0_1, .int .i64 a0_2, .int .i64 a0_3, .string a0_4, .bool a0_5, .int .i64 a0_6, .int .i64 a0_7] 44 (0, 0)) (by (with_reducible repeat (first | refine blk_drewN ?_ _ | refine blk_drew ?_ | refine blk_alloc ?_ _)); exact BK122.out) hb)
          have n1_ := Aside0.mk (blk_below (g := gb123) (o := .cells #[.string (⟨#[]⟩ : ByteArray), .string (⟨#[]⟩ : ByteArray), .bool false, .int .i64 0, .int .i64 0] 48 (0, 0)) (by (with_reducible repeat (first | refine blk_drewN ?_ _ | refine blk_drew ?_ | refine blk_alloc ?_ _)); exact BK123.out) hb)
          have n2_ := Aside0.mk (below_step (by repeat (first | (with_reducible first | exact HB.out | apply below_alloc | apply pw_below_drewN | apply below_drew1 | refine below_set ?_ GE122.out | refine below_set ?_ GE123.out) | exact HB.out)) hb)
          have n3_ := Aside0.mk (hbox)
          have n4_ := Aside0.mk ((by rw [hg]; exact (below_size (by repeat (first | (with_reducible first | exact HB.out | apply below_alloc | apply pw_below_drewN | apply below_drew1 | refine below_set ?_ GE122.out | refine below_set ?_ GE123.out) | exact HB.out))) : w.heap.size ≤ gb125))
          have n5_ := Aside0.mk ((by rw [hg]; exact (below_size (by repeat (first | (with_reducible first | exact HB.out | apply below_alloc | apply pw_below_drewN | apply below_drew1 | refine below_set ?_ GE122.out | refine below_set ?_ GE123.out) | exact HB.out))) : w.heap.size ≤ gb125))
          have n6_ := Aside0.mk ((by rw [hg]; exact Nat.ne_of_lt (blk_lt (g := gb122) (o := .cells #[.bool a0_0, .string a0_1, .int .i64 a0_2, .int .i64 a0_3, .string a0_4, .bool a0_5, .int .i64 a0_6, .int .i64 a0_7] 44 (0, 0)) (by (with_reducible repeat (first | refine blk_drewN ?_ _ | refine blk_drew ?_ | refine blk_alloc ?_ _)); exact BK122.out)) : gb122 ≠ gb125))
          have n7_ := Aside0.mk ((by rw [hg]; exact Nat.ne_of_gt (blk_lt (g := gb122) (o := .cells #[.bool a0_0, .string a0_1, .int .i64 a0_2, .int .i64 a0_3, .string a0_4, .bool a0_5, .int .i64 a0_6, .int .i64 a0_7] 44 (0, 0)) (by (with_reducible repeat (first | refine blk_drewN ?_ _ | refine blk_drew ?_ | refine blk_alloc ?_ _)); exact BK122.out)) : gb125 ≠ gb122))
          have n8_ := Aside0.mk ((by rw [hg]; exact Nat.ne_of_lt (blk_lt (g := gb123) (o := .cells #[.string (⟨#[]⟩ : ByteArray), .string (⟨#[]⟩ : ByteArray), .bool false, .int .i64 0, .int .i64 0] 48 (0, 0)) (by (with_reducible repeat (first | refine blk_drewN ?_ _ | refine blk_drew ?_ | refine blk_alloc ?_ _)); exact BK123.out)) : gb123 ≠ gb125))
          have n9_ := Aside0.mk ((by rw [hg]; exact Nat.ne_of_gt (blk_lt (g := gb123) (o := .cells #[.string (⟨#[]⟩ : ByteArray), .string (⟨#[]⟩ : ByteArray), .bool false, .int .i64 0, .int .i64 0] 48 (0, 0)) (by (with_reducible repeat (first | refine blk_drewN ?_ _ | refine blk_drew ?_ | refine blk_alloc ?_ _)); exact BK123.out)) : gb125 ≠ gb123))
          clear BK122
          clear BK123
          clear HB
          have BK122 := n0_
          have BK123 := n1_
          have HB := n2_
          have BK125 := n3_
          have GW125 := n4_
          have GE125 := n5_
          have NB122_125 := n6_
          have NB125_122 := n7_
          have NB123_125 := n8_
          have NB125_123 := n9_
          clear n0_ n1_ n2_ n3_ n4_ n5_ n6_ n7_ n8_ n9_
          clear hb hbox hg
          refine hK.out _ _ ⟨(blk_cell BK122.out 0).trans rfl, (blk_cell BK122.out 1).trans rfl, (blk_cell BK122.out 2).trans rfl, (blk_cell BK122.out 3).trans rfl, (blk_cell BK122.out 4).trans rfl, (blk_cell BK122.out 5).trans rfl, (blk_cell BK122.out 6).trans rfl, (blk_cell BK122.out 7).trans rfl⟩ (fun hHeld => ?_)
          clear hK K
          refine norm_ (a' := ?_) ?_ ?_
          rotate_left
          · show Act.put _ (some 3) _ = _
            simp only [Act.put, List.setIfInBounds_toArray, List.set_cons_zero, List.set_cons_succ, i64_w, i32_w]
            rfl
          refine one_ (i := 4) (N := some 22) #[true, true, true, true, true, false, true, false] rfl rfl (one_of HT_.out (by kernel_rfl)) (by decide) (fun K hK => ?_)
          refine goes_ Try.func55 (by kernel_rfl) rfl #[.int .i64 a0_3] (by rfl) rfl rfl (by (try simp only [List.map_toArray, List.map_cons, List.map_nil]); first | done | rfl | (simp only [List.length_drop, List.length_take]; rfl)) ?_
          with_reducible refine (spec_TimerCut.calls a0_3 t124 _ A14.out).mono ?_
          rintro e w22 ⟨rfl, hb⟩
          refine ⟨_, rfl, ?_⟩
          have n0_ := Aside0.mk (blk_below (g := gb122) (o := .cells #[.bool a0_0, .string a0_1, .int .i64 a0_2, .int .i64 a0_3, .string a0_4, .bool a0_5, .int .i64 a0_6, .int .i64 a0_7] 44 (0, 0)) (by (with_reducible repeat (first | refine blk_drewN ?_ _ | refine blk_drew ?_ | refine blk_alloc ?_ _)); exact BK122.out) hb)
          have n1_ := Aside0.mk (blk_below (g := gb123) (o := .cells #[.string (⟨#[]⟩ : ByteArray), .string (⟨#[]⟩ : ByteArray), .bool false, .int .i64 0, .int .i64 0] 48 (0, 0)) (by (with_reducible repeat (first | refine blk_drewN ?_ _ | refine blk_drew ?_ | refine blk_alloc ?_ _)); exact BK123.out) hb)
          have n2_ := Aside0.mk (blk_below (g := gb125) (o := .cells #[.string (⟨#[]⟩ : ByteArray), .string (⟨#[]⟩ : ByteArray), .bool false, .int .i64 0, .int .i64 0] 48 (0, 0)) (by (with_reducible repeat (first | refine blk_drewN ?_ _ | refine blk_drew ?_ | refine blk_alloc ?_ _)); exact BK125.out) hb)
          have n3_ := Aside0.mk (below_step (by repeat (first | (with_reducible first | exact HB.out | apply below_alloc | apply pw_below_drewN | apply below_drew1 | refine below_set ?_ GE122.out | refine below_set ?_ GE123.out | refine below_set ?_ GE125.out) | exact HB.out)) hb)
          clear BK122
          clear BK123
          clear BK125
          clear HB
          have BK122 := n0_
          have BK123 := n1_
          have BK125 := n2_
          have HB := n3_
          clear n0_ n1_ n2_ n3_
          (try clear hb)
          (try clear hb2)
          (try clear hk)
          (try clear hi)
          refine hK.out _ _ ⟨(blk_cell BK122.out 0).trans rfl, (blk_cell BK122.out 1).trans rfl, (blk_cell BK122.out 2).trans rfl, (blk_cell BK122.out 3).trans rfl, (blk_cell BK122.out 4).trans rfl, (blk_cell BK122.out 5).trans rfl, (blk_cell BK122.out 6).trans rfl, (blk_cell BK122.out 7).trans rfl⟩ (fun hHeld => ?_)
          clear hK K
          refine norm_ (a' := ?_) ?_ ?_
          rotate_left
          · show Act.put _ (some 22) _ = _
            simp only [Act.put, List.setIfInBounds_toArray, List.set_cons_zero, List.set_cons_succ, i64_w, i32_w]
            rfl
          refine pure_ (i := 5) (N := some 23) (v := ?_) (a' := ?_) #[true, true, true, true, true, true, true, false] rfl rfl (any_of HT_.out (by kernel_rfl)) (fun _ _ _ h => h) (Or.inl ⟨by rfl, ?_⟩) ?_ ?_
          rotate_left
          · intro w'
            go_simp
            with_reducible rfl
          rotate_left
          · simp only [Act.put, List.setIfInBounds_toArray, List.set_cons_zero, List.set_cons_succ, i64_w, i32_w]
            rfl
          exact norm_ (by simp only [putAll, Act.put, List.setIfInBounds_toArray, List.set_cons_zero, List.set_cons_succ]) (hCont (gb125) _ ⟨hHeld, (by (with_reducible repeat (first | refine blk_drewN ?_ _ | refine blk_drew ?_ | refine blk_alloc ?_ _)); exact BK122.out), (by (with_reducible repeat (first | refine blk_drewN ?_ _ | refine blk_drew ?_ | refine blk_alloc ?_ _)); exact BK123.out), (by (with_reducible repeat (first | refine blk_drewN ?_ _ | refine blk_drew ?_ | refine blk_alloc ?_ _)); exact BK125.out), GW125.out, GE125.out, NB122_125.out, NB125_122.out, NB123_125.out, NB125_123.out, (by repeat (first | (with_reducible first | exact HB.out | apply below_alloc | apply pw_below_drewN | apply below_drew1 | refine below_set ?_ GE122.out | refine below_set ?_ GE123.out | refine below_set ?_ GE125.out) | exact HB.out))⟩)
      rintro gb125 w23 ⟨hS_, h0_, h1_, h2_, h3_, h4_, h5_, h6_, h7_, h8_, h9_⟩
      have n0_ : Aside0 (w23.heap[gb122]? = some (.cells #[.bool a0_0, .string a0_1, .int .i64 a0_2, .int .i64 a0_3, .string a0_4, .bool a0_5, .int .i64 a0_6, .int .i64 a0_7] 44 (0, 0))) := ⟨h0_⟩
      have n1_ : Aside0 (w23.heap[gb123]? = some (.cells #[.string (⟨#[]⟩ : ByteArray), .string (⟨#[]⟩ : ByteArray), .bool false, .int .i64 0, .int .i64 0] 48 (0, 0))) := ⟨h1_⟩
      have n2_ : Aside0 (w23.heap[gb125]? = some (.cells #[.string (⟨#[]⟩ : ByteArray), .string (⟨#[]⟩ : ByteArray), .bool false, .int .i64 0, .int .i64 0] 48 (0, 0))) := ⟨h2_⟩
      have n3_ : Aside0 (w.heap.size ≤ gb125) := ⟨h3_⟩
      have n4_ : Aside0 (w.heap.size ≤ gb125) := ⟨h4_⟩
      have n5_ : Aside0 (gb122 ≠ gb125) := ⟨h5_⟩
      have n6_ : Aside0 (gb125 ≠ gb122) := ⟨h6_⟩
      have n7_ : Aside0 (gb123 ≠ gb125) := ⟨h7_⟩
      have n8_ : Aside0 (gb125 ≠ gb123) := ⟨h8_⟩
      have n9_ : Aside0 (Below w.heap.size w w23) := ⟨h9_⟩
      clear BK122
      clear BK123
      clear HB
      clear h0_ h1_ h2_ h3_ h4_ h5_ h6_ h7_ h8_ h9_
      have BK122 := n0_
      have BK123 := n1_
      have BK125 := n2_
      have GW125 := n3_
      have GE125 := n4_
      have NB122_125 := n5_
      have NB125_122 := n6_
      have NB123_125 := n7_
      have NB125_123 := n8_
      have HB := n9_
      clear n0_ n1_ n2_ n3_ n4_ n5_ n6_ n7_ n8_ n9_
      have hHeld : w23.cell? ⟨gb122, 0, none⟩ = some (.bool a0_0) ∧ w23.cell? ⟨gb122, 1, none⟩ = some (.string a0_1) ∧ w23.cell? ⟨gb122, 2, none⟩ = some (.int .i64 a0_2) ∧ w23.cell? ⟨gb122, 3, none⟩ = some (.int .i64 a0_3) ∧ w23.cell? ⟨gb122, 4, none⟩ = some (.string a0_4) ∧ w23.cell? ⟨gb122, 5, none⟩ = some (.bool a0_5) ∧ w23.cell? ⟨gb122, 6, none⟩ = some (.int .i64 a0_6) ∧ w23.cell? ⟨gb122, 7, none⟩ = some (.int .i64 a0_7) := hS_
      refine norm_ (a' := ?_) ?_ ?_
      rotate_left
      · simp only [putAll, Act.put, List.setIfInBounds_toArray, List.set_cons_zero, List.set_cons_succ]
        rfl
      refine one_ (i := 7) (N := none) #[true, true, true, true, true, true, true, true] rfl rfl (one_of HT_.out (by kernel_rfl)) (by decide) (fun K hK => ?_)
      have hs24 : w23.cell? ⟨gb125, 0, none⟩ = some (.string (⟨#[]⟩ : ByteArray)) := (blk_cell BK125.out 0).trans rfl
      have hfs24 := blk_frozen BK125.out 0
      have hns24_0 := NB122_125.out
      have hns24_1 := NB123_125.out
      have hms24_0 := NB125_122.out
      have hms24_1 := NB125_123.out
      have hs25 : w23.cell? ⟨gb125, 1, none⟩ = some (.string (⟨#[]⟩ : ByteArray)) := (blk_cell BK125.out 1).trans rfl
      have hfs25 := blk_frozen BK125.out 1
      have hns25_0 := NB122_125.out
      have hns25_1 := NB123_125.out
      have hms25_0 := NB125_122.out
      have hms25_1 := NB125_123.out
      have hs26 : w23.cell? ⟨gb125, 2, none⟩ = some (.bool false) := (blk_cell BK125.out 2).trans rfl
      have hfs26 := blk_frozen BK125.out 2
      have hns26_0 := NB122_125.out
      have hns26_1 := NB123_125.out
      have hms26_0 := NB125_122.out
      have hms26_1 := NB125_123.out
      have hs27 : w23.cell? ⟨gb125, 3, none⟩ = some (.int .i64 0) := (blk_cell BK125.out 3).trans rfl
      have hfs27 := blk_frozen BK125.out 3
      have hns27_0 := NB122_125.out
      have hns27_1 := NB123_125.out
      have hms27_0 := NB125_122.out
      have hms27_1 := NB125_123.out
      have hs28 : w23.cell? ⟨gb125, 4, none⟩ = some (.int .i64 0) := (blk_cell BK125.out 4).trans rfl
      have hfs28 := blk_frozen BK125.out 4
      have hns28_0 := NB122_125.out
      have hns28_1 := NB123_125.out
      have hms28_0 := NB125_122.out
      have hms28_1 := NB125_123.out
      refine skip_ (w1 := ?_) (by rfl) rfl ?_ ?_
      rotate_left
      · go_simp
        rfl
      refine hK.out _ _ ⟨((cell_far (p := ⟨gb125, _, none⟩) NB122_125.out _).trans (((cell_far (p := ⟨gb125, _, none⟩) NB122_125.out _).trans (((cell_far (p := ⟨gb125, _, none⟩) NB122_125.out _).trans (((cell_far (p := ⟨gb125, _, none⟩) NB122_125.out _).trans (((cell_far (p := ⟨gb125, _, none⟩) NB122_125.out _).trans (hHeld.1)))))))))), ((cell_far (p := ⟨gb125, _, none⟩) NB122_125.out _).trans (((cell_far (p := ⟨gb125, _, none⟩) NB122_125.out _).trans (((cell_far (p := ⟨gb125, _, none⟩) NB122_125.out _).trans (((cell_far (p := ⟨gb125, _, none⟩) NB122_125.out _).trans (((cell_far (p := ⟨gb125, _, none⟩) NB122_125.out _).trans (hHeld.2.1)))))))))), ((cell_far (p := ⟨gb125, _, none⟩) NB122_125.out _).trans (((cell_far (p := ⟨gb125, _, none⟩) NB122_125.out _).trans (((cell_far (p := ⟨gb125, _, none⟩) NB122_125.out _).trans (((cell_far (p := ⟨gb125, _, none⟩) NB122_125.out _).trans (((cell_far (p := ⟨gb125, _, none⟩) NB122_125.out _).trans (hHeld.2.2.1)))))))))), ((cell_far (p := ⟨gb125, _, none⟩) NB122_125.out _).trans (((cell_far (p := ⟨gb125, _, none⟩) NB122_125.out _).trans (((cell_far (p := ⟨gb125, _, none⟩) NB122_125.out _).trans (((cell_far (p := ⟨gb125, _, none⟩) NB122_125.out _).trans (((cell_far (p := ⟨gb125, _, none⟩) NB122_125.out _).trans (hHeld.2.2.2.1)))))))))), ((cell_far (p := ⟨gb125, _, none⟩) NB122_125.out _).trans (((cell_far (p := ⟨gb125, _, none⟩) NB122_125.out _).trans (((cell_far (p := ⟨gb125, _, none⟩) NB122_125.out _).trans (((cell_far (p := ⟨gb125, _, none⟩) NB122_125.out _).trans (((cell_far (p := ⟨gb125, _, none⟩) NB122_125.out _).trans (hHeld.2.2.2.2.1)))))))))), ((cell_far (p := ⟨gb125, _, none⟩) NB122_125.out _).trans (((cell_far (p := ⟨gb125, _, none⟩) NB122_125.out _).trans (((cell_far (p := ⟨gb125, _, none⟩) NB122_125.out _).trans (((cell_far (p := ⟨gb125, _, none⟩) NB122_125.out _).trans (((cell_far (p := ⟨gb125, _, none⟩) NB122_125.out _).trans (hHeld.2.2.2.2.2.1)))))))))), ((cell_far (p := ⟨gb125, _, none⟩) NB122_125.out _).trans (((cell_far (p := ⟨gb125, _, none⟩) NB122_125.out _).trans (((cell_far (p := ⟨gb125, _, none⟩) NB122_125.out _).trans (((cell_far (p := ⟨gb125, _, none⟩) NB122_125.out _).trans (((cell_far (p := ⟨gb125, _, none⟩) NB122_125.out _).trans (hHeld.2.2.2.2.2.2.1)))))))))), ((cell_far (p := ⟨gb125, _, none⟩) NB122_125.out _).trans (((cell_far (p := ⟨gb125, _, none⟩) NB122_125.out _).trans (((cell_far (p := ⟨gb125, _, none⟩) NB122_125.out _).trans (((cell_far (p := ⟨gb125, _, none⟩) NB122_125.out _).trans (((cell_far (p := ⟨gb125, _, none⟩) NB122_125.out _).trans (hHeld.2.2.2.2.2.2.2))))))))))⟩ (fun hHeld => ?_)
      clear hK K
      refine done_ (done_of HT_.out (by kernel_rfl)) ?_
      have hnb29 := NB122_125.out
      have hnc29 := NB125_122.out
      have hcz30_0 : w23.cell? ⟨gb122, 0, none⟩ = some (.bool a0_0) := (blk_cell BK122.out 0).trans rfl
      have hcz30_1 : w23.cell? ⟨gb122, 1, none⟩ = some (.string a0_1) := (blk_cell BK122.out 1).trans rfl
      have hcz30_2 : w23.cell? ⟨gb122, 2, none⟩ = some (.int .i64 a0_2) := (blk_cell BK122.out 2).trans rfl
      have hcz30_3 : w23.cell? ⟨gb122, 3, none⟩ = some (.int .i64 a0_3) := (blk_cell BK122.out 3).trans rfl
      have hcz30_4 : w23.cell? ⟨gb122, 4, none⟩ = some (.string a0_4) := (blk_cell BK122.out 4).trans rfl
      have hcz30_5 : w23.cell? ⟨gb122, 5, none⟩ = some (.bool a0_5) := (blk_cell BK122.out 5).trans rfl
      have hcz30_6 : w23.cell? ⟨gb122, 6, none⟩ = some (.int .i64 a0_6) := (blk_cell BK122.out 6).trans rfl
      have hcz30_7 : w23.cell? ⟨gb122, 7, none⟩ = some (.int .i64 a0_7) := (blk_cell BK122.out 7).trans rfl
      have hfz30_0 := blk_frozen BK122.out 0
      have hfz30_1 := blk_frozen BK122.out 1
      have hfz30_2 := blk_frozen BK122.out 2
      have hfz30_3 := blk_frozen BK122.out 3
      have hfz30_4 := blk_frozen BK122.out 4
      have hfz30_5 := blk_frozen BK122.out 5
      have hfz30_6 := blk_frozen BK122.out 6
      have hfz30_7 := blk_frozen BK122.out 7
      go_upto_if 25 with (fail)
      go_cut [] (fun wc => ∃ (kq : Nat) (x126001_14 : ByteArray), Aside0 (laws_timerMap.j0 kq a0_0 a0_1 a0_2 a0_3 a0_4 a0_5 a0_6 a0_7 a0_1 x126001_14 false t124 0 = some (r1, r2, r3, r4, r5)) ∧ Aside0 (kq ≤ k) ∧ Aside0 (wc.heap[gb122]? = some (.cells #[.bool a0_0, .string a0_1, .int .i64 a0_2, .int .i64 a0_3, .string a0_4, .bool a0_5, .int .i64 a0_6, .int .i64 a0_7] 44 (0, 0))) ∧ Aside0 (wc.heap[gb123]? = some (.cells #[.string (⟨#[]⟩ : ByteArray), .string (⟨#[]⟩ : ByteArray), .bool false, .int .i64 0, .int .i64 0] 48 (0, 0))) ∧ Aside0 (wc.heap[gb125]? = some (.cells #[.string a0_1, .string x126001_14, .bool false, .int .i64 t124, .int .i64 0] 48 (0, 0))) ∧ Aside0 (Below w.heap.size w wc))
      case first =>
        have H := HC15.out
        clear HC15
        by_cases c31 : a0_5 = true
        · subst c31
          have H1 : (laws_timerMap.j0 k a0_0 a0_1 a0_2 a0_3 a0_4 true a0_6 a0_7 a0_1 a0_4 false t124 0) = some (r1, r2, r3, r4, r5) := by rw [if_pos rfl] at H; exact H
          clear H
          have H := H1
          clear H1
          have H' := Aside0.mk H
          clear H
          have hnb32 := NB122_123.out
          have hnc32 := NB123_122.out
          have hnb33 := NB122_125.out
          have hnc33 := NB125_122.out
          have hcz34_0 : w23.cell? ⟨gb122, 0, none⟩ = some (.bool a0_0) := (blk_cell BK122.out 0).trans rfl
          have hcz34_1 : w23.cell? ⟨gb122, 1, none⟩ = some (.string a0_1) := (blk_cell BK122.out 1).trans rfl
          have hcz34_2 : w23.cell? ⟨gb122, 2, none⟩ = some (.int .i64 a0_2) := (blk_cell BK122.out 2).trans rfl
          have hcz34_3 : w23.cell? ⟨gb122, 3, none⟩ = some (.int .i64 a0_3) := (blk_cell BK122.out 3).trans rfl
          have hcz34_4 : w23.cell? ⟨gb122, 4, none⟩ = some (.string a0_4) := (blk_cell BK122.out 4).trans rfl
          have hcz34_5 : w23.cell? ⟨gb122, 5, none⟩ = some (.bool true) := (blk_cell BK122.out 5).trans rfl
          have hcz34_6 : w23.cell? ⟨gb122, 6, none⟩ = some (.int .i64 a0_6) := (blk_cell BK122.out 6).trans rfl
          have hcz34_7 : w23.cell? ⟨gb122, 7, none⟩ = some (.int .i64 a0_7) := (blk_cell BK122.out 7).trans rfl
          have hfz34_0 := blk_frozen BK122.out 0
          have hfz34_1 := blk_frozen BK122.out 1
          have hfz34_2 := blk_frozen BK122.out 2
          have hfz34_3 := blk_frozen BK122.out 3
          have hfz34_4 := blk_frozen BK122.out 4
          have hfz34_5 := blk_frozen BK122.out 5
          have hfz34_6 := blk_frozen BK122.out 6
          have hfz34_7 := blk_frozen BK122.out 7
          have hnb35 := NB125_123.out
          have hnc35 := NB123_125.out
          have hcz36_0 : w23.cell? ⟨gb125, 0, none⟩ = some (.string (⟨#[]⟩ : ByteArray)) := (blk_cell BK125.out 0).trans rfl
          have hcz36_1 : w23.cell? ⟨gb125, 1, none⟩ = some (.string (⟨#[]⟩ : ByteArray)) := (blk_cell BK125.out 1).trans rfl
          have hcz36_2 : w23.cell? ⟨gb125, 2, none⟩ = some (.bool false) := (blk_cell BK125.out 2).trans rfl
          have hcz36_3 : w23.cell? ⟨gb125, 3, none⟩ = some (.int .i64 0) := (blk_cell BK125.out 3).trans rfl
          have hcz36_4 : w23.cell? ⟨gb125, 4, none⟩ = some (.int .i64 0) := (blk_cell BK125.out 4).trans rfl
          have hfz36_0 := blk_frozen BK125.out 0
          have hfz36_1 := blk_frozen BK125.out 1
          have hfz36_2 := blk_frozen BK125.out 2
          have hfz36_3 := blk_frozen BK125.out 3
          have hfz36_4 := blk_frozen BK125.out 4
          go_wp2
          go_meet
          case rel => exact ⟨_, (a0_4), H', ⟨by first | omega | exact Nat.le_refl _⟩, ⟨by (with_reducible repeat (first | refine blk_drewN ?_ _ | refine blk_drew ?_ | refine blk_alloc ?_ _)); refine blk_far ?_ NB122_125.out _; (with_reducible repeat (first | refine blk_drewN ?_ _ | refine blk_drew ?_ | refine blk_alloc ?_ _)); refine blk_far ?_ NB122_125.out _; (with_reducible repeat (first | refine blk_drewN ?_ _ | refine blk_drew ?_ | refine blk_alloc ?_ _)); refine blk_far ?_ NB122_125.out _; (with_reducible repeat (first | refine blk_drewN ?_ _ | refine blk_drew ?_ | refine blk_alloc ?_ _)); refine blk_far ?_ NB122_125.out _; (with_reducible repeat (first | refine blk_drewN ?_ _ | refine blk_drew ?_ | refine blk_alloc ?_ _)); refine blk_far ?_ NB122_125.out _; (with_reducible repeat (first | refine blk_drewN ?_ _ | refine blk_drew ?_ | refine blk_alloc ?_ _)); refine blk_far ?_ NB122_125.out _; (with_reducible repeat (first | refine blk_drewN ?_ _ | refine blk_drew ?_ | refine blk_alloc ?_ _)); exact BK122.out⟩, ⟨by (with_reducible repeat (first | refine blk_drewN ?_ _ | refine blk_drew ?_ | refine blk_alloc ?_ _)); refine blk_far ?_ NB123_125.out _; (with_reducible repeat (first | refine blk_drewN ?_ _ | refine blk_drew ?_ | refine blk_alloc ?_ _)); refine blk_far ?_ NB123_125.out _; (with_reducible repeat (first | refine blk_drewN ?_ _ | refine blk_drew ?_ | refine blk_alloc ?_ _)); refine blk_far ?_ NB123_125.out _; (with_reducible repeat (first | refine blk_drewN ?_ _ | refine blk_drew ?_ | refine blk_alloc ?_ _)); refine blk_far ?_ NB123_125.out _; (with_reducible repeat (first | refine blk_drewN ?_ _ | refine blk_drew ?_ | refine blk_alloc ?_ _)); refine blk_far ?_ NB123_125.out _; (with_reducible repeat (first | refine blk_drewN ?_ _ | refine blk_drew ?_ | refine blk_alloc ?_ _)); refine blk_far ?_ NB123_125.out _; (with_reducible repeat (first | refine blk_drewN ?_ _ | refine blk_drew ?_ | refine blk_alloc ?_ _)); exact BK123.out⟩, ⟨by (with_reducible repeat (first | refine blk_drewN ?_ _ | refine blk_drew ?_ | refine blk_alloc ?_ _)); refine blk_put (cs := #[.string a0_1, .string (⟨#[]⟩ : ByteArray), .bool false, .int .i64 t124, .int .i64 0]) ?_ 1 _ rfl; (with_reducible repeat (first | refine blk_drewN ?_ _ | refine blk_drew ?_ | refine blk_alloc ?_ _)); refine blk_put (cs := #[.string a0_1, .string (⟨#[]⟩ : ByteArray), .bool false, .int .i64 t124, .int .i64 0]) ?_ 4 _ rfl; (with_reducible repeat (first | refine blk_drewN ?_ _ | refine blk_drew ?_ | refine blk_alloc ?_ _)); refine blk_put (cs := #[.string a0_1, .string (⟨#[]⟩ : ByteArray), .bool false, .int .i64 0, .int .i64 0]) ?_ 3 _ rfl; (with_reducible repeat (first | refine blk_drewN ?_ _ | refine blk_drew ?_ | refine blk_alloc ?_ _)); refine blk_put (cs := #[.string a0_1, .string (⟨#[]⟩ : ByteArray), .bool false, .int .i64 0, .int .i64 0]) ?_ 2 _ rfl; (with_reducible repeat (first | refine blk_drewN ?_ _ | refine blk_drew ?_ | refine blk_alloc ?_ _)); refine blk_put (cs := #[.string a0_1, .string (⟨#[]⟩ : ByteArray), .bool false, .int .i64 0, .int .i64 0]) ?_ 1 _ rfl; (with_reducible repeat (first | refine blk_drewN ?_ _ | refine blk_drew ?_ | refine blk_alloc ?_ _)); refine blk_put (cs := #[.string (⟨#[]⟩ : ByteArray), .string (⟨#[]⟩ : ByteArray), .bool false, .int .i64 0, .int .i64 0]) ?_ 0 _ rfl; (with_reducible repeat (first | refine blk_drewN ?_ _ | refine blk_drew ?_ | refine blk_alloc ?_ _)); exact BK125.out⟩, ⟨by repeat (first | (with_reducible first | exact HB.out | apply below_alloc | apply pw_below_drewN | apply below_drew1 | refine below_set ?_ GE122.out | refine below_set ?_ GE123.out | refine below_set ?_ GE125.out) | exact HB.out)⟩⟩
        · replace c31 := Bool.eq_false_iff.mpr c31
          subst c31
          have H1 : (laws_timerMap.j0 k a0_0 a0_1 a0_2 a0_3 a0_4 false a0_6 a0_7 a0_1 (⟨#[]⟩ : ByteArray) false t124 0) = some (r1, r2, r3, r4, r5) := by rw [if_neg (show ¬ (false = true) by decide)] at H; exact H
          clear H
          have H := H1
          clear H1
          have H' := Aside0.mk H
          clear H
          go_wp2
          go_meet
          case rel => exact ⟨_, ((⟨#[]⟩ : ByteArray)), H', ⟨by first | omega | exact Nat.le_refl _⟩, ⟨by (with_reducible repeat (first | refine blk_drewN ?_ _ | refine blk_drew ?_ | refine blk_alloc ?_ _)); refine blk_far ?_ NB122_125.out _; (with_reducible repeat (first | refine blk_drewN ?_ _ | refine blk_drew ?_ | refine blk_alloc ?_ _)); refine blk_far ?_ NB122_125.out _; (with_reducible repeat (first | refine blk_drewN ?_ _ | refine blk_drew ?_ | refine blk_alloc ?_ _)); refine blk_far ?_ NB122_125.out _; (with_reducible repeat (first | refine blk_drewN ?_ _ | refine blk_drew ?_ | refine blk_alloc ?_ _)); refine blk_far ?_ NB122_125.out _; (with_reducible repeat (first | refine blk_drewN ?_ _ | refine blk_drew ?_ | refine blk_alloc ?_ _)); refine blk_far ?_ NB122_125.out _; (with_reducible repeat (first | refine blk_drewN ?_ _ | refine blk_drew ?_ | refine blk_alloc ?_ _)); exact BK122.out⟩, ⟨by (with_reducible repeat (first | refine blk_drewN ?_ _ | refine blk_drew ?_ | refine blk_alloc ?_ _)); refine blk_far ?_ NB123_125.out _; (with_reducible repeat (first | refine blk_drewN ?_ _ | refine blk_drew ?_ | refine blk_alloc ?_ _)); refine blk_far ?_ NB123_125.out _; (with_reducible repeat (first | refine blk_drewN ?_ _ | refine blk_drew ?_ | refine blk_alloc ?_ _)); refine blk_far ?_ NB123_125.out _; (with_reducible repeat (first | refine blk_drewN ?_ _ | refine blk_drew ?_ | refine blk_alloc ?_ _)); refine blk_far ?_ NB123_125.out _; (with_reducible repeat (first | refine blk_drewN ?_ _ | refine blk_drew ?_ | refine blk_alloc ?_ _)); refine blk_far ?_ NB123_125.out _; (with_reducible repeat (first | refine blk_drewN ?_ _ | refine blk_drew ?_ | refine blk_alloc ?_ _)); exact BK123.out⟩, ⟨by (with_reducible repeat (first | refine blk_drewN ?_ _ | refine blk_drew ?_ | refine blk_alloc ?_ _)); refine blk_put (cs := #[.string a0_1, .string (⟨#[]⟩ : ByteArray), .bool false, .int .i64 t124, .int .i64 0]) ?_ 4 _ rfl; (with_reducible repeat (first | refine blk_drewN ?_ _ | refine blk_drew ?_ | refine blk_alloc ?_ _)); refine blk_put (cs := #[.string a0_1, .string (⟨#[]⟩ : ByteArray), .bool false, .int .i64 0, .int .i64 0]) ?_ 3 _ rfl; (with_reducible repeat (first | refine blk_drewN ?_ _ | refine blk_drew ?_ | refine blk_alloc ?_ _)); refine blk_put (cs := #[.string a0_1, .string (⟨#[]⟩ : ByteArray), .bool false, .int .i64 0, .int .i64 0]) ?_ 2 _ rfl; (with_reducible repeat (first | refine blk_drewN ?_ _ | refine blk_drew ?_ | refine blk_alloc ?_ _)); refine blk_put (cs := #[.string a0_1, .string (⟨#[]⟩ : ByteArray), .bool false, .int .i64 0, .int .i64 0]) ?_ 1 _ rfl; (with_reducible repeat (first | refine blk_drewN ?_ _ | refine blk_drew ?_ | refine blk_alloc ?_ _)); refine blk_put (cs := #[.string (⟨#[]⟩ : ByteArray), .string (⟨#[]⟩ : ByteArray), .bool false, .int .i64 0, .int .i64 0]) ?_ 0 _ rfl; (with_reducible repeat (first | refine blk_drewN ?_ _ | refine blk_drew ?_ | refine blk_alloc ?_ _)); exact BK125.out⟩, ⟨by repeat (first | (with_reducible first | exact HB.out | apply below_alloc | apply pw_below_drewN | apply below_drew1 | refine below_set ?_ GE122.out | refine below_set ?_ GE123.out | refine below_set ?_ GE125.out) | exact HB.out)⟩⟩
      case rest =>
        clear HC15
        try clear c1
        try clear c2
        try clear c2b0
        try clear c2b1
        try clear p2
        try clear c3
        try clear c5
        try clear c8
        try clear c8b0
        try clear c8b1
        try clear c11
        try clear c18
        try clear c22
        try clear c29
        try clear c31
        try clear c32
        try clear c33
        try clear c35
        try clear hcz12_0
        try clear hcz12_1
        try clear hcz12_2
        try clear hcz12_3
        try clear hcz12_4
        try clear hcz12_5
        try clear hcz12_6
        try clear hcz12_7
        try clear hcz13_0
        try clear hcz13_1
        try clear hcz13_2
        try clear hcz13_3
        try clear hcz13_4
        try clear hcz19_0
        try clear hcz19_1
        try clear hcz19_2
        try clear hcz19_3
        try clear hcz19_4
        try clear hcz19_5
        try clear hcz19_6
        try clear hcz19_7
        try clear hcz30_0
        try clear hcz30_1
        try clear hcz30_2
        try clear hcz30_3
        try clear hcz30_4
        try clear hcz30_5
        try clear hcz30_6
        try clear hcz30_7
        try clear hcz34_0
        try clear hcz34_1
        try clear hcz34_2
        try clear hcz34_3
        try clear hcz34_4
        try clear hcz34_5
        try clear hcz34_6
        try clear hcz34_7
        try clear hcz36_0
        try clear hcz36_1
        try clear hcz36_2
        try clear hcz36_3
        try clear hcz36_4
        try clear hcz6_0
        try clear hcz6_1
        try clear hcz6_2
        try clear hcz6_3
        try clear hcz6_4
        try clear hcz6_5
        try clear hcz6_6
        try clear hcz6_7
        try clear hcz7_0
        try clear hcz7_1
        try clear hcz7_2
        try clear hcz7_3
        try clear hcz7_4
        try clear hfz12_0
        try clear hfz12_1
        try clear hfz12_2
        try clear hfz12_3
        try clear hfz12_4
        try clear hfz12_5
        try clear hfz12_6
        try clear hfz12_7
        try clear hfz13_0
        try clear hfz13_1
        try clear hfz13_2
        try clear hfz13_3
        try clear hfz13_4
        try clear hfz19_0
        try clear hfz19_1
        try clear hfz19_2
        try clear hfz19_3
        try clear hfz19_4
        try clear hfz19_5
        try clear hfz19_6
        try clear hfz19_7
        try clear hfz30_0
        try clear hfz30_1
        try clear hfz30_2
        try clear hfz30_3
        try clear hfz30_4
        try clear hfz30_5
        try clear hfz30_6
        try clear hfz30_7
        try clear hfz34_0
        try clear hfz34_1
        try clear hfz34_2
        try clear hfz34_3
        try clear hfz34_4
        try clear hfz34_5
        try clear hfz34_6
        try clear hfz34_7
        try clear hfz36_0
        try clear hfz36_1
        try clear hfz36_2
        try clear hfz36_3
        try clear hfz36_4
        try clear hfz6_0
        try clear hfz6_1
        try clear hfz6_2
        try clear hfz6_3
        try clear hfz6_4
        try clear hfz6_5
        try clear hfz6_6
        try clear hfz6_7
        try clear hfz7_0
        try clear hfz7_1
        try clear hfz7_2
        try clear hfz7_3
        try clear hfz7_4
        obtain ⟨kq, x126001_14, HA, HJ14, BK122, BK123, BK125, HB⟩ := hcut
        cases kq with
        | zero => exact absurd HA.out (by simp [laws_timerMap.j0])
        | succ kj14 =>
          have H := HA.out
          clear HA
          simp only [laws_timerMap.j0] at H
          by_cases c37 : a0_6 = 1
          · rw [if_pos c37] at H
            have c37b0 : (a0_6 == 1) = true := beq_iff_eq.mpr c37
            have c37b1 : (a0_6 != 1) = false := bne_eq_false_iff_eq.mpr c37
            clear c37
            replace H := Option.bind_eq_some_iff.mp H
            obtain ⟨t126, A380, H⟩ := H
            replace H : (some (a0_1, x126001_14, false, t124, t126)) = some (r1, r2, r3, r4, r5) := H
            have A38 := Aside0.mk A380
            clear A380
            simp only [Option.some.injEq, Prod.mk.injEq] at H
            obtain ⟨rfl, rfl, rfl, rfl, rfl⟩ := H
            have hnb39 := NB122_123.out
            have hnc39 := NB123_122.out
            have hnb40 := NB122_125.out
            have hnc40 := NB125_122.out
            have hcz41_0 : wc.cell? ⟨gb122, 0, none⟩ = some (.bool a0_0) := (blk_cell BK122.out 0).trans rfl
            have hcz41_1 : wc.cell? ⟨gb122, 1, none⟩ = some (.string a0_1) := (blk_cell BK122.out 1).trans rfl
            have hcz41_2 : wc.cell? ⟨gb122, 2, none⟩ = some (.int .i64 a0_2) := (blk_cell BK122.out 2).trans rfl
            have hcz41_3 : wc.cell? ⟨gb122, 3, none⟩ = some (.int .i64 a0_3) := (blk_cell BK122.out 3).trans rfl
            have hcz41_4 : wc.cell? ⟨gb122, 4, none⟩ = some (.string a0_4) := (blk_cell BK122.out 4).trans rfl
            have hcz41_5 : wc.cell? ⟨gb122, 5, none⟩ = some (.bool a0_5) := (blk_cell BK122.out 5).trans rfl
            have hcz41_6 : wc.cell? ⟨gb122, 6, none⟩ = some (.int .i64 a0_6) := (blk_cell BK122.out 6).trans rfl
            have hcz41_7 : wc.cell? ⟨gb122, 7, none⟩ = some (.int .i64 a0_7) := (blk_cell BK122.out 7).trans rfl
            have hfz41_0 := blk_frozen BK122.out 0
            have hfz41_1 := blk_frozen BK122.out 1
            have hfz41_2 := blk_frozen BK122.out 2
            have hfz41_3 := blk_frozen BK122.out 3
            have hfz41_4 := blk_frozen BK122.out 4
            have hfz41_5 := blk_frozen BK122.out 5
            have hfz41_6 := blk_frozen BK122.out 6
            have hfz41_7 := blk_frozen BK122.out 7
            go_wp2_with (first | ((with_reducible refine gate_callee (f := 55) rfl ?_); refine goesL_ (some 38) rfl rfl Try.func55 (by kernel_rfl) rfl #[.int .i64 a0_7] rfl (by (try simp only [List.map_toArray, List.map_cons, List.map_nil]); first | done | rfl | (simp only [List.length_drop, List.length_take]; rfl)) ?_; (with_reducible refine (spec_TimerCut.calls a0_7 t126 _ A38.out).mono ?_); rintro e w42 ⟨rfl, hb⟩; refine ⟨_, rfl, ?_⟩; have n0_ := Aside0.mk (blk_below (g := gb122) (o := .cells #[.bool a0_0, .string a0_1, .int .i64 a0_2, .int .i64 a0_3, .string a0_4, .bool a0_5, .int .i64 a0_6, .int .i64 a0_7] 44 (0, 0)) (by (with_reducible repeat (first | refine blk_drewN ?_ _ | refine blk_drew ?_ | refine blk_alloc ?_ _)); exact BK122.out) hb); have n1_ := Aside0.mk (blk_below (g := gb123) (o := .cells #[.string (⟨#[]⟩ : ByteArray), .string (⟨#[]⟩ : ByteArray), .bool false, .int .i64 0, .int .i64 0] 48 (0, 0)) (by (with_reducible repeat (first | refine blk_drewN ?_ _ | refine blk_drew ?_ | refine blk_alloc ?_ _)); exact BK123.out) hb); have n2_ := Aside0.mk (blk_below (g := gb125) (o := .cells #[.string a0_1, .string x126001_14, .bool false, .int .i64 t124, .int .i64 0] 48 (0, 0)) (by (with_reducible repeat (first | refine blk_drewN ?_ _ | refine blk_drew ?_ | refine blk_alloc ?_ _)); exact BK125.out) hb); have n3_ := Aside0.mk (below_step (by repeat (first | (with_reducible first | exact HB.out | apply below_alloc | apply pw_below_drewN | apply below_drew1 | refine below_set ?_ GE122.out | refine below_set ?_ GE123.out | refine below_set ?_ GE125.out) | exact HB.out)) hb); clear BK122; clear BK123; clear BK125; clear HB; have BK122 := n0_; have BK123 := n1_; have BK125 := n2_; have HB := n3_; clear n0_ n1_ n2_ n3_; (try clear hb); (try clear hb2); (try clear hk); (try clear hi); have hnb43 := NB125_123.out; have hnc43 := NB123_125.out; have hcz44_0 : w42.cell? ⟨gb125, 0, none⟩ = some (.string a0_1) := (blk_cell BK125.out 0).trans rfl; have hcz44_1 : w42.cell? ⟨gb125, 1, none⟩ = some (.string x126001_14) := (blk_cell BK125.out 1).trans rfl; have hcz44_2 : w42.cell? ⟨gb125, 2, none⟩ = some (.bool false) := (blk_cell BK125.out 2).trans rfl; have hcz44_3 : w42.cell? ⟨gb125, 3, none⟩ = some (.int .i64 t124) := (blk_cell BK125.out 3).trans rfl; have hcz44_4 : w42.cell? ⟨gb125, 4, none⟩ = some (.int .i64 0) := (blk_cell BK125.out 4).trans rfl; have hfz44_0 := blk_frozen BK125.out 0; have hfz44_1 := blk_frozen BK125.out 1; have hfz44_2 := blk_frozen BK125.out 2; have hfz44_3 := blk_frozen BK125.out 3; have hfz44_4 := blk_frozen BK125.out 4; have hcz45_0 : w42.cell? ⟨gb123, 0, none⟩ = some (.string (⟨#[]⟩ : ByteArray)) := (blk_cell BK123.out 0).trans rfl; have hcz45_1 : w42.cell? ⟨gb123, 1, none⟩ = some (.string (⟨#[]⟩ : ByteArray)) := (blk_cell BK123.out 1).trans rfl; have hcz45_2 : w42.cell? ⟨gb123, 2, none⟩ = some (.bool false) := (blk_cell BK123.out 2).trans rfl; have hcz45_3 : w42.cell? ⟨gb123, 3, none⟩ = some (.int .i64 0) := (blk_cell BK123.out 3).trans rfl; have hcz45_4 : w42.cell? ⟨gb123, 4, none⟩ = some (.int .i64 0) := (blk_cell BK123.out 4).trans rfl; have hfz45_0 := blk_frozen BK123.out 0; have hfz45_1 := blk_frozen BK123.out 1; have hfz45_2 := blk_frozen BK123.out 2; have hfz45_3 := blk_frozen BK123.out 3; have hfz45_4 := blk_frozen BK123.out 4))
            refine bodyPost_ret (results_cell_row rfl _ _ gb123 48 #[.string a0_1, .string x126001_14, .bool false, .int .i64 t124, .int .i64 t126] (0, 0) _ rfl (by (with_reducible repeat (first | refine blk_drewN ?_ _ | refine blk_drew ?_ | refine blk_alloc ?_ _)); refine blk_put (cs := #[.string a0_1, .string x126001_14, .bool false, .int .i64 t124, .int .i64 0]) ?_ 4 _ rfl; (with_reducible repeat (first | refine blk_drewN ?_ _ | refine blk_drew ?_ | refine blk_alloc ?_ _)); refine blk_put (cs := #[.string a0_1, .string x126001_14, .bool false, .int .i64 0, .int .i64 0]) ?_ 3 _ rfl; (with_reducible repeat (first | refine blk_drewN ?_ _ | refine blk_drew ?_ | refine blk_alloc ?_ _)); refine blk_put (cs := #[.string a0_1, .string x126001_14, .bool false, .int .i64 0, .int .i64 0]) ?_ 2 _ rfl; (with_reducible repeat (first | refine blk_drewN ?_ _ | refine blk_drew ?_ | refine blk_alloc ?_ _)); refine blk_put (cs := #[.string a0_1, .string (⟨#[]⟩ : ByteArray), .bool false, .int .i64 0, .int .i64 0]) ?_ 1 _ rfl; (with_reducible repeat (first | refine blk_drewN ?_ _ | refine blk_drew ?_ | refine blk_alloc ?_ _)); refine blk_put (cs := #[.string (⟨#[]⟩ : ByteArray), .string (⟨#[]⟩ : ByteArray), .bool false, .int .i64 0, .int .i64 0]) ?_ 0 _ rfl; (with_reducible repeat (first | refine blk_drewN ?_ _ | refine blk_drew ?_ | refine blk_alloc ?_ _)); refine blk_far ?_ NB123_125.out _; (with_reducible repeat (first | refine blk_drewN ?_ _ | refine blk_drew ?_ | refine blk_alloc ?_ _)); exact BK123.out) Try.underlying48 rfl (by kernel_rfl)) rfl ?_
            exact ⟨by first | rfl | (simp [errW_none, errW_some] <;> rfl) | (simp [*, errW_none, errW_some] <;> rfl), by repeat (first | (with_reducible first | exact HB.out | apply below_alloc | apply pw_below_drewN | apply below_drew1 | refine below_set ?_ GE122.out | refine below_set ?_ GE123.out | refine below_set ?_ GE125.out) | exact HB.out)⟩
          · rw [if_neg c37] at H
            have c37b0 : (a0_6 == 1) = false := beq_eq_false_iff_ne.mpr c37
            have c37b1 : (a0_6 != 1) = true := bne_iff_ne.mpr c37
            by_cases c46 : a0_6 = 2
            · rw [if_pos c46] at H
              have c46b0 : (a0_6 == 2) = true := beq_iff_eq.mpr c46
              have c46b1 : (a0_6 != 2) = false := bne_eq_false_iff_eq.mpr c46
              clear c46
              simp only [Option.some.injEq, Prod.mk.injEq] at H
              obtain ⟨rfl, rfl, rfl, rfl, rfl⟩ := H
              have hnb47 := NB122_123.out
              have hnc47 := NB123_122.out
              have hnb48 := NB122_125.out
              have hnc48 := NB125_122.out
              have hcz49_0 : wc.cell? ⟨gb122, 0, none⟩ = some (.bool a0_0) := (blk_cell BK122.out 0).trans rfl
              have hcz49_1 : wc.cell? ⟨gb122, 1, none⟩ = some (.string a0_1) := (blk_cell BK122.out 1).trans rfl
              have hcz49_2 : wc.cell? ⟨gb122, 2, none⟩ = some (.int .i64 a0_2) := (blk_cell BK122.out 2).trans rfl
              have hcz49_3 : wc.cell? ⟨gb122, 3, none⟩ = some (.int .i64 a0_3) := (blk_cell BK122.out 3).trans rfl
              have hcz49_4 : wc.cell? ⟨gb122, 4, none⟩ = some (.string a0_4) := (blk_cell BK122.out 4).trans rfl
              have hcz49_5 : wc.cell? ⟨gb122, 5, none⟩ = some (.bool a0_5) := (blk_cell BK122.out 5).trans rfl
              have hcz49_6 : wc.cell? ⟨gb122, 6, none⟩ = some (.int .i64 a0_6) := (blk_cell BK122.out 6).trans rfl
              have hcz49_7 : wc.cell? ⟨gb122, 7, none⟩ = some (.int .i64 a0_7) := (blk_cell BK122.out 7).trans rfl
              have hfz49_0 := blk_frozen BK122.out 0
              have hfz49_1 := blk_frozen BK122.out 1
              have hfz49_2 := blk_frozen BK122.out 2
              have hfz49_3 := blk_frozen BK122.out 3
              have hfz49_4 := blk_frozen BK122.out 4
              have hfz49_5 := blk_frozen BK122.out 5
              have hfz49_6 := blk_frozen BK122.out 6
              have hfz49_7 := blk_frozen BK122.out 7
              have hnb50 := NB125_123.out
              have hnc50 := NB123_125.out
              have hcz51_0 : wc.cell? ⟨gb125, 0, none⟩ = some (.string a0_1) := (blk_cell BK125.out 0).trans rfl
              have hcz51_1 : wc.cell? ⟨gb125, 1, none⟩ = some (.string x126001_14) := (blk_cell BK125.out 1).trans rfl
              have hcz51_2 : wc.cell? ⟨gb125, 2, none⟩ = some (.bool false) := (blk_cell BK125.out 2).trans rfl
              have hcz51_3 : wc.cell? ⟨gb125, 3, none⟩ = some (.int .i64 t124) := (blk_cell BK125.out 3).trans rfl
              have hcz51_4 : wc.cell? ⟨gb125, 4, none⟩ = some (.int .i64 0) := (blk_cell BK125.out 4).trans rfl
              have hfz51_0 := blk_frozen BK125.out 0
              have hfz51_1 := blk_frozen BK125.out 1
              have hfz51_2 := blk_frozen BK125.out 2
              have hfz51_3 := blk_frozen BK125.out 3
              have hfz51_4 := blk_frozen BK125.out 4
              have hcz52_0 : wc.cell? ⟨gb123, 0, none⟩ = some (.string (⟨#[]⟩ : ByteArray)) := (blk_cell BK123.out 0).trans rfl
              have hcz52_1 : wc.cell? ⟨gb123, 1, none⟩ = some (.string (⟨#[]⟩ : ByteArray)) := (blk_cell BK123.out 1).trans rfl
              have hcz52_2 : wc.cell? ⟨gb123, 2, none⟩ = some (.bool false) := (blk_cell BK123.out 2).trans rfl
              have hcz52_3 : wc.cell? ⟨gb123, 3, none⟩ = some (.int .i64 0) := (blk_cell BK123.out 3).trans rfl
              have hcz52_4 : wc.cell? ⟨gb123, 4, none⟩ = some (.int .i64 0) := (blk_cell BK123.out 4).trans rfl
              have hfz52_0 := blk_frozen BK123.out 0
              have hfz52_1 := blk_frozen BK123.out 1
              have hfz52_2 := blk_frozen BK123.out 2
              have hfz52_3 := blk_frozen BK123.out 3
              have hfz52_4 := blk_frozen BK123.out 4
              go_wp2
              refine bodyPost_ret (results_cell_row rfl _ _ gb123 48 #[.string a0_1, .string x126001_14, .bool false, .int .i64 t124, .int .i64 9223372036854775] (0, 0) _ rfl (by (with_reducible repeat (first | refine blk_drewN ?_ _ | refine blk_drew ?_ | refine blk_alloc ?_ _)); refine blk_put (cs := #[.string a0_1, .string x126001_14, .bool false, .int .i64 t124, .int .i64 0]) ?_ 4 _ rfl; (with_reducible repeat (first | refine blk_drewN ?_ _ | refine blk_drew ?_ | refine blk_alloc ?_ _)); refine blk_put (cs := #[.string a0_1, .string x126001_14, .bool false, .int .i64 0, .int .i64 0]) ?_ 3 _ rfl; (with_reducible repeat (first | refine blk_drewN ?_ _ | refine blk_drew ?_ | refine blk_alloc ?_ _)); refine blk_put (cs := #[.string a0_1, .string x126001_14, .bool false, .int .i64 0, .int .i64 0]) ?_ 2 _ rfl; (with_reducible repeat (first | refine blk_drewN ?_ _ | refine blk_drew ?_ | refine blk_alloc ?_ _)); refine blk_put (cs := #[.string a0_1, .string (⟨#[]⟩ : ByteArray), .bool false, .int .i64 0, .int .i64 0]) ?_ 1 _ rfl; (with_reducible repeat (first | refine blk_drewN ?_ _ | refine blk_drew ?_ | refine blk_alloc ?_ _)); refine blk_put (cs := #[.string (⟨#[]⟩ : ByteArray), .string (⟨#[]⟩ : ByteArray), .bool false, .int .i64 0, .int .i64 0]) ?_ 0 _ rfl; (with_reducible repeat (first | refine blk_drewN ?_ _ | refine blk_drew ?_ | refine blk_alloc ?_ _)); refine blk_far ?_ NB123_125.out _; (with_reducible repeat (first | refine blk_drewN ?_ _ | refine blk_drew ?_ | refine blk_alloc ?_ _)); exact BK123.out) Try.underlying48 rfl (by kernel_rfl)) rfl ?_
              exact ⟨by first | rfl | (simp [errW_none, errW_some] <;> rfl) | (simp [*, errW_none, errW_some] <;> rfl), by repeat (first | (with_reducible first | exact HB.out | apply below_alloc | apply pw_below_drewN | apply below_drew1 | refine below_set ?_ GE122.out | refine below_set ?_ GE123.out | refine below_set ?_ GE125.out) | exact HB.out)⟩
            · rw [if_neg c46] at H
              have c46b0 : (a0_6 == 2) = false := beq_eq_false_iff_ne.mpr c46
              have c46b1 : (a0_6 != 2) = true := bne_iff_ne.mpr c46
              simp only [Option.some.injEq, Prod.mk.injEq] at H
              obtain ⟨rfl, rfl, rfl, rfl, rfl⟩ := H
              have hnb53 := NB122_123.out
              have hnc53 := NB123_122.out
              have hnb54 := NB122_125.out
              have hnc54 := NB125_122.out
              have hcz55_0 : wc.cell? ⟨gb122, 0, none⟩ = some (.bool a0_0) := (blk_cell BK122.out 0).trans rfl
              have hcz55_1 : wc.cell? ⟨gb122, 1, none⟩ = some (.string a0_1) := (blk_cell BK122.out 1).trans rfl
              have hcz55_2 : wc.cell? ⟨gb122, 2, none⟩ = some (.int .i64 a0_2) := (blk_cell BK122.out 2).trans rfl
              have hcz55_3 : wc.cell? ⟨gb122, 3, none⟩ = some (.int .i64 a0_3) := (blk_cell BK122.out 3).trans rfl
              have hcz55_4 : wc.cell? ⟨gb122, 4, none⟩ = some (.string a0_4) := (blk_cell BK122.out 4).trans rfl
              have hcz55_5 : wc.cell? ⟨gb122, 5, none⟩ = some (.bool a0_5) := (blk_cell BK122.out 5).trans rfl
              have hcz55_6 : wc.cell? ⟨gb122, 6, none⟩ = some (.int .i64 a0_6) := (blk_cell BK122.out 6).trans rfl
              have hcz55_7 : wc.cell? ⟨gb122, 7, none⟩ = some (.int .i64 a0_7) := (blk_cell BK122.out 7).trans rfl
              have hfz55_0 := blk_frozen BK122.out 0
              have hfz55_1 := blk_frozen BK122.out 1
              have hfz55_2 := blk_frozen BK122.out 2
              have hfz55_3 := blk_frozen BK122.out 3
              have hfz55_4 := blk_frozen BK122.out 4
              have hfz55_5 := blk_frozen BK122.out 5
              have hfz55_6 := blk_frozen BK122.out 6
              have hfz55_7 := blk_frozen BK122.out 7
              have hnb56 := NB125_123.out
              have hnc56 := NB123_125.out
              have hcz57_0 : wc.cell? ⟨gb125, 0, none⟩ = some (.string a0_1) := (blk_cell BK125.out 0).trans rfl
              have hcz57_1 : wc.cell? ⟨gb125, 1, none⟩ = some (.string x126001_14) := (blk_cell BK125.out 1).trans rfl
              have hcz57_2 : wc.cell? ⟨gb125, 2, none⟩ = some (.bool false) := (blk_cell BK125.out 2).trans rfl
              have hcz57_3 : wc.cell? ⟨gb125, 3, none⟩ = some (.int .i64 t124) := (blk_cell BK125.out 3).trans rfl
              have hcz57_4 : wc.cell? ⟨gb125, 4, none⟩ = some (.int .i64 0) := (blk_cell BK125.out 4).trans rfl
              have hfz57_0 := blk_frozen BK125.out 0
              have hfz57_1 := blk_frozen BK125.out 1
              have hfz57_2 := blk_frozen BK125.out 2
              have hfz57_3 := blk_frozen BK125.out 3
              have hfz57_4 := blk_frozen BK125.out 4
              have hcz58_0 : wc.cell? ⟨gb123, 0, none⟩ = some (.string (⟨#[]⟩ : ByteArray)) := (blk_cell BK123.out 0).trans rfl
              have hcz58_1 : wc.cell? ⟨gb123, 1, none⟩ = some (.string (⟨#[]⟩ : ByteArray)) := (blk_cell BK123.out 1).trans rfl
              have hcz58_2 : wc.cell? ⟨gb123, 2, none⟩ = some (.bool false) := (blk_cell BK123.out 2).trans rfl
              have hcz58_3 : wc.cell? ⟨gb123, 3, none⟩ = some (.int .i64 0) := (blk_cell BK123.out 3).trans rfl
              have hcz58_4 : wc.cell? ⟨gb123, 4, none⟩ = some (.int .i64 0) := (blk_cell BK123.out 4).trans rfl
              have hfz58_0 := blk_frozen BK123.out 0
              have hfz58_1 := blk_frozen BK123.out 1
              have hfz58_2 := blk_frozen BK123.out 2
              have hfz58_3 := blk_frozen BK123.out 3
              have hfz58_4 := blk_frozen BK123.out 4
              go_wp2
              refine bodyPost_ret (results_cell_row rfl _ _ gb123 48 #[.string a0_1, .string x126001_14, .bool false, .int .i64 t124, .int .i64 t124] (0, 0) _ rfl (by (with_reducible repeat (first | refine blk_drewN ?_ _ | refine blk_drew ?_ | refine blk_alloc ?_ _)); refine blk_put (cs := #[.string a0_1, .string x126001_14, .bool false, .int .i64 t124, .int .i64 0]) ?_ 4 _ rfl; (with_reducible repeat (first | refine blk_drewN ?_ _ | refine blk_drew ?_ | refine blk_alloc ?_ _)); refine blk_put (cs := #[.string a0_1, .string x126001_14, .bool false, .int .i64 0, .int .i64 0]) ?_ 3 _ rfl; (with_reducible repeat (first | refine blk_drewN ?_ _ | refine blk_drew ?_ | refine blk_alloc ?_ _)); refine blk_put (cs := #[.string a0_1, .string x126001_14, .bool false, .int .i64 0, .int .i64 0]) ?_ 2 _ rfl; (with_reducible repeat (first | refine blk_drewN ?_ _ | refine blk_drew ?_ | refine blk_alloc ?_ _)); refine blk_put (cs := #[.string a0_1, .string (⟨#[]⟩ : ByteArray), .bool false, .int .i64 0, .int .i64 0]) ?_ 1 _ rfl; (with_reducible repeat (first | refine blk_drewN ?_ _ | refine blk_drew ?_ | refine blk_alloc ?_ _)); refine blk_put (cs := #[.string (⟨#[]⟩ : ByteArray), .string (⟨#[]⟩ : ByteArray), .bool false, .int .i64 0, .int .i64 0]) ?_ 0 _ rfl; (with_reducible repeat (first | refine blk_drewN ?_ _ | refine blk_drew ?_ | refine blk_alloc ?_ _)); refine blk_far ?_ NB123_125.out _; (with_reducible repeat (first | refine blk_drewN ?_ _ | refine blk_drew ?_ | refine blk_alloc ?_ _)); exact BK123.out) Try.underlying48 rfl (by kernel_rfl)) rfl ?_
              exact ⟨by first | rfl | (simp [errW_none, errW_some] <;> rfl) | (simp [*, errW_none, errW_some] <;> rfl), by repeat (first | (with_reducible first | exact HB.out | apply below_alloc | apply pw_below_drewN | apply below_drew1 | refine below_set ?_ GE122.out | refine below_set ?_ GE123.out | refine below_set ?_ GE125.out) | exact HB.out)⟩

-- NOT PRINTED: function 4 (laws_FnTimerRun)

end Go.Proofs.Ytoigekmdicepnaa.PFnTimerRun
